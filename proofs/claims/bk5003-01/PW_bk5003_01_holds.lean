import PyProof.Rows.All
import Wide.All
import OpenK.AllK
import Wide.FinOn
import PySem.Challenge.RW_bk5003_01
open PySem PySem.W PyProof.Rows
set_option Elab.async false
namespace Mine
set_option maxRecDepth 100000 in
set_option maxHeartbeats 8000000 in
open_top hd for PySem.Challenge.rw_bk5003_01
end Mine
open PySem PySem.W PyProof.Rows PySem.Calls
set_option rowWalk.seconds 0
set_option maxRecDepth 100000
set_option maxHeartbeats 2000000
set_option linter.unusedVariables false
namespace Mine
example : (fun (_ : OpenLaw) (_ : Params → Frag) => True) PySem.Challenge.rw_bk5003_01 Mine.hd.heap_39 := by
  k_fill
  trivial
-- Bs
section
/-- nothing that stood has turned -/
def Ext (h h' : Heap) : Prop := ∀ b o, h.get? b = some o → h'.get? b = some o
theorem Ext.refl (h : Heap) : Ext h h := fun _ _ e => e
theorem Ext.trans {a b c : Heap} (x : Ext a b) (y : Ext b c) : Ext a c := fun _ _ e => y _ _ (x _ _ e)
theorem Fr.ext {h₀ h h' : Heap} {L : Addr} {m : Str → Option Value} (F : Fr h₀ L h m) (x : Ext h h') : Fr h₀ L h' m :=
  ⟨F.ns.keeps x, fun b o e => x _ _ (F.keep b o e), F.above⟩
theorem News.ext {h₀ h h' : Heap} {L : Addr} {news : List (Addr × Obj)} (N : News h₀ L h news) (x : Ext h h') : News h₀ L h' news :=
  fun p hp => ⟨x _ _ (N p hp).1, (N p hp).2⟩

/-- what every walk stands on: the top's objects as written, its names -/
structure Bas (w : World) (h : Heap) : Prop where
  X : (Mine.hd.heap_39 w.params).In h
  T : ∃ p loose mean mg mb, Top p loose mean mg mb h
theorem Bas.ext {w : World} {h h' : Heap} (B : Bas w h) (x : Ext h h') : Bas w h' :=
  ⟨B.X.keeps x, let ⟨p, l, m, g, b, T⟩ := B.T; ⟨p, l, m, g, b, T.keeps x⟩⟩

/-- room for n frames more -/
structure Room (A : Around) (n : Nat) : Prop where
  hh : A.handled = none
  hd : A.depth + 3 * n < recursionLimit
  hu : A.units + 200 * n < cLine
theorem Room.le {A : Around} {n m : Nat} (H : Room A n) (h : m ≤ n) : Room A m := ⟨H.hh, by have := H.hd; omega, by have := H.hu; omega⟩
theorem Room.deeper {A : Around} {n : Nat} (H : Room A (n + 1)) (env : Env) : Room (A.deeper env) n :=
  ⟨H.hh, by have := H.hd; show A.depth + 1 + _ < _; omega, by have := H.hu; show A.units + 3 + _ < _; omega⟩

theorem Room.hhd {A : Around} {n : Nat} {env : Env} (H : Room A n) : (A.deeper env).handled = none := H.hh
/-- a def's way back: a value, nothing that stood has turned, what it made (own) -/
def Ret (s : Shared) (P : Value → List (Addr × Obj) → Prop) : Result → Shared → Prop := fun r s' =>
  ∃ v h' tk' own, r = .ok (.ret v) ∧ s' = { s with heap := h', toks := tk' } ∧ Ext s.heap h' ∧ (∀ p ∈ own, h'.get? p.1 = some p.2 ∧ s.heap.get? p.1 = none) ∧ P v own

section
variable {prog : Program} {w : World} {A : Around} {s : Shared} {K : Frag}
theorem enter {R : Result → Shared → Prop} {name qual : Str} {params : Arguments} {body : List Stmt} {scope : Scope} {dV kV doc pm cdv ct oc : Value} {an od : Option Addr} {osl : Array (Option Value)} {f : Addr} {args : Args} {binds : List (Str × Value)}
    (X : K.In s.heap) (hlim : s.heap.NoLimit)
    (ho : K.lookup f = some ⟨oc, od, .func (fnOf name qual params body scope dV kV doc pm an cdv ct), osl⟩) (hcd : codeIn K cdv qual = true) (hroom : A.depth < recursionLimit)
    (hbind : BindsTo s (fnOf name qual params body scope dV kV doc pm an cdv ct) args binds) (hloc : ∀ y ∈ binds, scope.names.lookup y.1 = some .local)
    (h : ∀ L h₁, Fr s.heap L h₁ (fun y => binds.reverse.lookup y) → News s.heap L h₁ [] →
      wpAny (model prog w) (A.deeper (envOf qual scope L f cdv)) (execs body (envOf qual scope L f cdv))
        (fun fl s' => R (.ok (.ret (match fl with | .ret v => v | _ => .none))) s')
        (fun _ _ => False)
        { s with heap := h₁, toks := s.toks + binds.length })
    (hco : scope.isCoroutine = false) (hgen : scope.isGenerator = false) (hk : scope.kind = .function)
    (hcell : ∀ x ∈ scope.names, x.2 ≠ .cell) : codeAny (model prog w) A (.call (.ref f) args) R s := by
  refine codeAny_call_def (fd := fnOf name qual params body scope dV kV doc pm an cdv ct) (body := body) (binds := binds) hroom (X _ _ ho) rfl hlim (codeRec_of X hcd) rfl hbind hcell hloc (fun h₁ hns hk₁ => ?_) hco hgen hk
  exact wpAny_mono (h s.heap.objs.size h₁ ⟨hns, hk₁, Nat.le_refl _⟩ News.nil) (fun _ _ y => y) (fun _ _ y => y.elim)

theorem use_spec {f : Value} {pos : List Value} {kw : List (Str × Value)} {Q : Value → Shared → Prop} {E : Value → Shared → Prop} {P : Value → List (Addr × Obj) → Prop}
    (h : codeAny (model prog w) A (.call f ⟨pos, kw⟩) (Ret s P) s)
    (k : ∀ v h' tk' own, Ext s.heap h' → (∀ p ∈ own, h'.get? p.1 = some p.2 ∧ s.heap.get? p.1 = none) → P v own → Q v { s with heap := h', toks := tk' }) : wpAny (model prog w) A (call f pos kw) Q E s :=
  wpAny_call (codeAny_mono h (fun r s' g => by obtain ⟨v, h', tk', own, rfl, rfl, x, y, p⟩ := g; exact k v h' tk' own x y p))
/-- a call that hands back no object of its own making -/
theorem use_spec0 {f : Value} {pos : List Value} {kw : List (Str × Value)} {Q : Value → Shared → Prop} {E : Value → Shared → Prop} {P : Value → List (Addr × Obj) → Prop} {h₀ : Heap} {L : Addr} {m : Str → Option Value} {news : List (Addr × Obj)}
    (F : Fr h₀ L s.heap m) (N : News h₀ L s.heap news)
    (h : codeAny (model prog w) A (.call f ⟨pos, kw⟩) (Ret s P) s)
    (k : ∀ v h' tk' own, Fr h₀ L h' m → News h₀ L h' news → P v own → Q v { s with heap := h', toks := tk' }) : wpAny (model prog w) A (call f pos kw) Q E s :=
  use_spec h fun v h' tk' own x _ p => k v h' tk' own (Fr.ext F x) (News.ext N x) p
end
theorem Bas.at {w : World} {h₀ h : Heap} {L : Addr} {m : Str → Option Value} {p : Program} {loose : List Str} {mean : ExcName → Option Value} {mg mb : Str → Option Value}
    (X : (Mine.hd.heap_39 w.params).In h₀) (T : Top p loose mean mg mb h₀) (F : Fr h₀ L h m) : Bas w h := ⟨X.keeps F.keep, p, loose, mean, mg, mb, T.keeps F.keep⟩
theorem val_int {a b : Int} {t : Tok} (h : a = b) : Value.int a t = Value.int b t := by rw [h]
theorem val_str {a b : PySem.Str} {t : Tok} (h : a = b) : Value.str a t = Value.str b t := by rw [h]
theorem val_bytes {a b : Array UInt8} {t : Tok} (h : a = b) : Value.bytes a t = Value.bytes b t := by rw [h]
theorem val_bool {a b : Bool} (h : a = b) : Value.bool a = Value.bool b := by rw [h]
theorem str_ext {a b : PySem.Str} (h : a.cps.toList = b.cps.toList) : a = b := by
  obtain ⟨⟨a⟩⟩ := a; obtain ⟨⟨b⟩⟩ := b
  exact congrArg PySem.Str.mk (congrArg Array.mk h)
/-- what a name holds -/
def MI (m : PySem.Str → Option Value) (x : PySem.Str) (i : Int) : Prop := ∃ t, m x = some (.int i t)
def MS (m : PySem.Str → Option Value) (x : PySem.Str) (y : PySem.Str) : Prop := ∃ t, m x = some (.str y t)
def MB (m : PySem.Str → Option Value) (x : PySem.Str) (b : Array UInt8) : Prop := ∃ t, m x = some (.bytes b t)
abbrev MR (m : PySem.Str → Option Value) (x : PySem.Str) (a : Addr) : Prop := m x = some (.ref a)
theorem MI.of {m : PySem.Str → Option Value} {x : PySem.Str} {i j : Int} {t : Tok} (h : m x = some (.int i t)) (e : i = j) : MI m x j := ⟨t, e ▸ h⟩
theorem MS.of {m : PySem.Str → Option Value} {x : PySem.Str} {i j : PySem.Str} {t : Tok} (h : m x = some (.str i t)) (e : i = j) : MS m x j := ⟨t, e ▸ h⟩
theorem MB.of {m : PySem.Str → Option Value} {x : PySem.Str} {i j : Array UInt8} {t : Tok} (h : m x = some (.bytes i t)) (e : i = j) : MB m x j := ⟨t, e ▸ h⟩
theorem MR.of {m : PySem.Str → Option Value} {x : PySem.Str} {a b : Addr} (h : m x = some (.ref a)) (e : a = b) : MR m x b := e ▸ h
theorem ints_snoc {vs : List Value} {ns : List Int} {i : Int} {t : Tok} {l : List Int} (h : IntsAre vs ns) (e : ns ++ [i] = l) : IntsAre (vs ++ [.int i t]) l := by
  subst e
  induction h with
  | nil => exact .cons _ _ .nil
  | cons i t _ ih => exact .cons _ _ ih

/-- an init's way back: None, all of g as it stood, and P of the heap -/
def IRet (s : Shared) (g : Heap) (P : Heap → Prop) : Result → Shared → Prop := fun r s' =>
  ∃ h' tk', r = .ok (.ret .none) ∧ s' = { s with heap := h', toks := tk' } ∧ (∀ b o, g.get? b = some o → h'.get? b = some o) ∧ P h'
section
variable {prog : Program} {w : World} {A : Around} {s : Shared} {K : Frag}
/-- in at a def, objects of the caller's at hand that may turn -/
theorem enterG {R : Result → Shared → Prop} {name qual : Str} {params : Arguments} {body : List Stmt} {scope : Scope} {dV kV doc pm cdv ct oc : Value} {an od : Option Addr} {osl : Array (Option Value)} {f : Addr} {args : Args} {binds : List (Str × Value)} {g : Heap} {news : List (Addr × Obj)}
    (X : K.In g) (hlim : g.NoLimit) (k0 : ∀ b o, g.get? b = some o → s.heap.get? b = some o) (k1 : g.objs.size ≤ s.heap.objs.size) (N0 : ∀ p ∈ news, s.heap.get? p.1 = some p.2 ∧ g.get? p.1 = none)
    (ho : K.lookup f = some ⟨oc, od, .func (fnOf name qual params body scope dV kV doc pm an cdv ct), osl⟩) (hcd : codeIn K cdv qual = true) (hroom : A.depth < recursionLimit)
    (hbind : BindsTo s (fnOf name qual params body scope dV kV doc pm an cdv ct) args binds) (hloc : ∀ y ∈ binds, scope.names.lookup y.1 = some .local)
    (h : ∀ L h₁, Fr g L h₁ (fun y => binds.reverse.lookup y) → News g L h₁ news → (∀ p ∈ news, p.1 < L) →
      wpAny (model prog w) (A.deeper (envOf qual scope L f cdv)) (execs body (envOf qual scope L f cdv))
        (fun fl s' => R (.ok (.ret (match fl with | .ret v => v | _ => .none))) s')
        (fun _ _ => False)
        { s with heap := h₁, toks := s.toks + binds.length })
    (hco : scope.isCoroutine = false) (hgen : scope.isGenerator = false) (hk : scope.kind = .function)
    (hcell : ∀ x ∈ scope.names, x.2 ≠ .cell) : codeAny (model prog w) A (.call (.ref f) args) R s := by
  refine codeAny_call_def (fd := fnOf name qual params body scope dV kV doc pm an cdv ct) (body := body) (binds := binds) hroom (k0 _ _ (X _ _ ho)) rfl (hlim.keeps k0) (codeRec_of (X.keeps k0) hcd) rfl hbind hcell hloc (fun h₁ hns hk₁ => ?_) hco hgen hk
  exact wpAny_mono (h s.heap.objs.size h₁ ⟨hns, fun b o e => hk₁ b o (k0 b o e), k1⟩ (fun p hp => ⟨hk₁ _ _ (N0 p hp).1, Nat.ne_of_lt (Heap.lt_size (N0 p hp).1), (N0 p hp).2⟩) (fun p hp => Heap.lt_size (N0 p hp).1)) (fun _ _ y => y) (fun _ _ y => y.elim)
/-- the same for a def that says super() -/
theorem enterS {R : Result → Shared → Prop} {name qual : Str} {params : Arguments} {body : List Stmt} {scope : Scope} {dV kV doc pm cdv ct oc : Value} {an od : Option Addr} {osl : Array (Option Value)} {f cc : Addr} {args : Args} {binds : List (Str × Value)} {g : Heap} {news : List (Addr × Obj)}
    (X : K.In g) (hlim : g.NoLimit) (k0 : ∀ b o, g.get? b = some o → s.heap.get? b = some o) (k1 : g.objs.size ≤ s.heap.objs.size) (N0 : ∀ p ∈ news, s.heap.get? p.1 = some p.2 ∧ g.get? p.1 = none)
    (ho : K.lookup f = some ⟨oc, od, .func (PySem.W.ksFn name qual params body scope dV kV doc pm an cdv ct cc), osl⟩) (hcd : codeIn K cdv qual = true) (hroom : A.depth < recursionLimit)
    (hbind : BindsTo s (PySem.W.ksFn name qual params body scope dV kV doc pm an cdv ct cc) args binds) (hloc : ∀ y ∈ binds, scope.names.lookup y.1 = some .local)
    (h : ∀ L h₁, Fr g L h₁ (fun y => binds.reverse.lookup y) → News g L h₁ news → (∀ p ∈ news, p.1 < L) →
      _root_.PySem.wpAt (model prog w) (A.deeper (PySem.W.ksEnv qual scope L f cdv cc)) (.func body (PySem.W.ksEnv qual scope L f cdv cc)) (execs body (PySem.W.ksEnv qual scope L f cdv cc))
        (fun fl s' => R (.ok (.ret (match fl with | .ret v => v | _ => .none))) s')
        (fun _ _ => False)
        { s with heap := h₁, toks := s.toks + binds.length })
    (hco : scope.isCoroutine = false) (hgen : scope.isGenerator = false) (hk : scope.kind = .function)
    (hcell : ∀ x ∈ scope.names, x.2 ≠ .cell) : codeAny (model prog w) A (.call (.ref f) args) R s := by
  refine ks_codeAny_call_defAt (fd := PySem.W.ksFn name qual params body scope dV kV doc pm an cdv ct cc) (body := body) (binds := binds) hroom (k0 _ _ (X _ _ ho)) rfl (hlim.keeps k0) (codeRec_of (X.keeps k0) hcd) rfl hbind hcell hloc (fun h₁ hns hk₁ => ?_) hco hgen hk
  exact ks_wpAt_mono (h s.heap.objs.size h₁ ⟨hns, fun b o e => hk₁ b o (k0 b o e), k1⟩ (fun p hp => ⟨hk₁ _ _ (N0 p hp).1, Nat.ne_of_lt (Heap.lt_size (N0 p hp).1), (N0 p hp).2⟩) (fun p hp => Heap.lt_size (N0 p hp).1)) (fun _ _ y => y) (fun _ _ y => y.elim)
/-- a method object called, its def's theorem given -/
theorem use_meth {q : Addr} {f self : Value} {pos : List Value} {kw : List (Str × Value)} {Q : Value → Shared → Prop} {E : Value → Shared → Prop} {P : Value → List (Addr × Obj) → Prop} {h₀ : Heap} {L : Addr} {m : Str → Option Value} {news : List (Addr × Obj)}
    (F : Fr h₀ L s.heap m) (N : News h₀ L s.heap news) (hq : (q, methodObj f self) ∈ news)
    (h : codeAny (model prog w) A (.call f ⟨self :: pos, kw⟩) (Ret s P) s)
    (k : ∀ v h' tk' own, Fr h₀ L h' m → News h₀ L h' news → P v own → Q v { s with heap := h', toks := tk' }) : wpAny (model prog w) A (call (.ref q) pos kw) Q E s :=
  PySem.W.call_meth N hq (codeAny_mono h (fun r s' y => by obtain ⟨v, h', tk', own, rfl, rfl, x, _, p⟩ := y; exact k v h' tk' own (Fr.ext F x) (News.ext N x) p))
theorem Fr.but {h₀ h h' : Heap} {L : Addr} {m : Str → Option Value} (F : Fr h₀ L h m) (k0 : ∀ b o, h₀.get? b = some o → h'.get? b = some o) (k : ∀ o, h.get? L = some o → h'.get? L = some o) : Fr h₀ L h' m := by
  obtain ⟨⟨oL, es, ep, hL, r⟩, _, c⟩ := F
  exact ⟨⟨oL, es, ep, k _ hL, r⟩, k0, c⟩
/-- an init called on what has just been made: x and its dict dx stand first in the ledger, own -/
theorem use_init {q : Addr} {f : Value} {x dx : Addr} {ox od : Obj} {pos : List Value} {kw : List (Str × Value)} {Q : Value → Shared → Prop} {E : Value → Shared → Prop} {h₀ : Heap} {L : Addr} {m : Str → Option Value} {pre news : List (Addr × Obj)} {P : Obj → Prop}
    (F : Fr h₀ L s.heap m) (N : News h₀ L s.heap (pre ++ (x, ox) :: (dx, od) :: news)) (hq : (q, methodObj f (.ref x)) ∈ pre) (hp : ∀ p ∈ pre, p.1 ≠ x ∧ p.1 ≠ dx) (hn : ∀ p ∈ news, p.1 ≠ x ∧ p.1 ≠ dx)
    (h : ∀ g, (∀ b o, h₀.get? b = some o → g.get? b = some o) → (∀ b o, g.get? b = some o → s.heap.get? b = some o) → g.objs.size ≤ s.heap.objs.size → (∀ p ∈ [(x, ox), (dx, od)], s.heap.get? p.1 = some p.2 ∧ g.get? p.1 = none) →
      codeAny (model prog w) A (.call f ⟨.ref x :: pos, kw⟩) (IRet s g fun h' => h'.get? x = some ox ∧ ∃ o, h'.get? dx = some o ∧ P o) s)
    (k : ∀ h' tk' o, Fr h₀ L h' m → News h₀ L h' (pre ++ (x, ox) :: (dx, o) :: news) → P o → Q .none { s with heap := h', toks := tk' }) : wpAny (model prog w) A (call (.ref q) pos kw) Q E s := by
  have Nx := N (x, ox) (List.mem_append_right _ (.head _))
  have Nd := N (dx, od) (List.mem_append_right _ (.tail _ (.head _)))
  have st : ∀ b o, h₀.get? b = some o → b ∉ [x, dx] := by
    intro b o e hb
    rcases List.mem_cons.mp hb with rfl | hb
    · exact nomatch e.symm.trans Nx.2.2
    · rcases List.mem_cons.mp hb with rfl | hb
      · exact nomatch e.symm.trans Nd.2.2
      · exact nomatch hb
  refine PySem.W.call_meth N (List.mem_append_left _ hq) (codeAny_mono (h (PySem.W.hideAll s.heap [x, dx]) (fun b o e => PySem.W.hideAll_get _ (F.keep b o e) (st b o e)) (fun b o e => PySem.W.of_hideAll _ e) (Nat.le_of_eq (PySem.W.hideAll_size _ _)) ?_) ?_)
  · intro p hp
    rcases List.mem_cons.mp hp with rfl | hp
    · exact ⟨Nx.1, PySem.W.hideAll_none _ (.head _)⟩
    · rcases List.mem_cons.mp hp with rfl | hp
      · exact ⟨Nd.1, PySem.W.hideAll_none _ (.tail _ (.head _))⟩
      · exact nomatch hp
  · rintro r s' ⟨h', tk', rfl, rfl, kk, hx', o, ho, hP⟩
    have keepN : ∀ b o, s.heap.get? b = some o → b ≠ x → b ≠ dx → h'.get? b = some o := fun b o e n1 n2 => kk b o (PySem.W.hideAll_get _ e (by simp [n1, n2]))
    refine k h' tk' o (Fr.but F (fun b o e => ?_) fun o e => keepN _ _ e (fun c => Nx.2.1 c.symm) (fun c => Nd.2.1 c.symm)) ?_ hP
    · have := st b o e
      exact keepN b o (F.keep b o e) (fun c => this (by simp [c])) (fun c => this (by simp [c]))
    · intro p hp'
      rcases List.mem_append.mp hp' with h1 | h1
      · have := N p (List.mem_append_left _ h1)
        exact ⟨keepN _ _ this.1 (hp p h1).1 (hp p h1).2, this.2⟩
      · rcases List.mem_cons.mp h1 with rfl | h1
        · exact ⟨hx', Nx.2⟩
        · rcases List.mem_cons.mp h1 with rfl | h1
          · exact ⟨ho, Nd.2⟩
          · have := N p (List.mem_append_right _ (.tail _ (.tail _ h1)))
            exact ⟨keepN _ _ this.1 (hn p h1).1 (hn p h1).2, this.2⟩
/-- the same where the ledger is: the method object, super's object, what has been made -/
theorem use_init2 {q so : Addr} {f : Value} {x dx : Addr} {ox od oS : Obj} {pos : List Value} {kw : List (Str × Value)} {Q : Value → Shared → Prop} {E : Value → Shared → Prop} {h₀ : Heap} {L : Addr} {m : Str → Option Value} {P : Obj → Prop}
    (F : Fr h₀ L s.heap m) (N : News h₀ L s.heap [(q, methodObj f (.ref x)), (so, oS), (x, ox), (dx, od)]) (h1 : q ≠ x) (h2 : q ≠ dx) (h3 : so ≠ x) (h4 : so ≠ dx)
    (h : ∀ g, (∀ b o, h₀.get? b = some o → g.get? b = some o) → (∀ b o, g.get? b = some o → s.heap.get? b = some o) → g.objs.size ≤ s.heap.objs.size → (∀ p ∈ [(x, ox), (dx, od)], s.heap.get? p.1 = some p.2 ∧ g.get? p.1 = none) →
      codeAny (model prog w) A (.call f ⟨.ref x :: pos, kw⟩) (IRet s g fun h' => h'.get? x = some ox ∧ ∃ o, h'.get? dx = some o ∧ P o) s)
    (k : ∀ h' tk' o, Fr h₀ L h' m → News h₀ L h' [(q, methodObj f (.ref x)), (so, oS), (x, ox), (dx, o)] → P o → Q .none { s with heap := h', toks := tk' }) : wpAny (model prog w) A (call (.ref q) pos kw) Q E s :=
  use_init (pre := [(q, methodObj f (.ref x)), (so, oS)]) (news := []) F N (.head _) (fun p hp => by
    rcases List.mem_cons.mp hp with rfl | hp
    · exact ⟨h1, h2⟩
    · rcases List.mem_cons.mp hp with rfl | hp
      · exact ⟨h3, h4⟩
      · exact nomatch hp) (fun _ hp => nomatch hp) h k
end

section
/-- wp_of_peek1 with no frame yet -/
theorem wp_of_peek0 {α : Type} {K : Frag} {M : Model} {A : Around} {E : Value → Shared → Prop} {Q : α → Shared → Prop} {s : Shared} {o : Obj} {r : Addr → α}
    (X : K.In s.heap) (q : Q (r s.heap.objs.size) { s with heap := s.heap.push o }) :
    ∀ (t : Sem α) (g : Addr → Option α), PySem.W.peek1 K ⟨M.prog, M.w.params⟩ t = some (o, g) → (∀ D, g D = some (r D)) → wpAny M A t Q E s := by
  intro t
  induction t with
  | rule _ k ih => intro g e hg Γ p hΓ; exact ih () g e hg Γ p hΓ
  | point _ k ih => intro g e hg Γ p hΓ; exact ih () g e hg Γ p hΓ
  | ask k ih => intro g e hg Γ p hΓ; exact ih _ g e hg Γ p hΓ
  | load a _ k ih =>
    intro g e hg Γ p hΓ
    simp only [PySem.W.peek1] at e
    split at e
    · rename_i ob ho; exact ⟨ob, X _ _ ho, ih ob g e hg Γ p hΓ⟩
    · cases e
  | alloc ob k _ =>
    intro g e hg
    have e : some (ob, fun D => peek K ⟨M.prog, M.w.params⟩ (k D)) = some (o, g) := e
    obtain ⟨e1, e2⟩ := Prod.mk.inj (Option.some.inj e)
    subst e1
    subst e2
    have X' : K.In (s.heap.push ob) := X.keeps fun b x hb => Heap.get?_push_of_some _ hb
    show wpAny M A (alloc ob >>= k) Q E s
    refine wpAny_bind (wpAny_alloc ?_)
    exact (Looks.of_peek (M := M) (h := s.heap.push ob) X' (hg s.heap.objs.size)).here (s := { s with heap := s.heap.push ob }) q
  | _ => intro g e; cases e
variable {prog : Program} {w : World} {A : Around} {s : Shared} {K : Frag}
/-- in at a def with *args -/
theorem enterV {R : Result → Shared → Prop} {name qual : Str} {params : Arguments} {body : List Stmt} {scope : Scope} {dV kV doc pm cdv ct oc : Value} {an od : Option Addr} {osl : Array (Option Value)} {f : Addr} {args : Args} {vs : List Value} {g₁ : Addr → Option (List (Str × Value))} {binds : Addr → List (Str × Value)}
    (X : K.In s.heap) (hlim : s.heap.NoLimit)
    (ho : K.lookup f = some ⟨oc, od, .func (fnOf name qual params body scope dV kV doc pm an cdv ct), osl⟩) (hcd : codeIn K cdv qual = true) (hroom : A.depth < recursionLimit)
    (hp : PySem.W.peek1 K ⟨prog, w.params⟩ (bindArgs (fnOf name qual params body scope dV kV doc pm an cdv ct) args) = some (({ cls := .type "tuple", data := .seq vs.toArray } : Obj), g₁))
    (hg : ∀ D, g₁ D = some (binds D)) (hloc : ∀ D, ∀ y ∈ binds D, scope.names.lookup y.1 = some .local)
    (h : ∀ D g L h₁, Ext s.heap g → PyProof.Rows.IsTup g D vs.toArray → Fr g L h₁ (fun y => (binds D).reverse.lookup y) → News g L h₁ [] →
      wpAny (model prog w) (A.deeper (envOf qual scope L f cdv)) (execs body (envOf qual scope L f cdv))
        (fun fl s' => R (.ok (.ret (match fl with | .ret v => v | _ => .none))) s')
        (fun _ _ => False)
        { s with heap := h₁, toks := s.toks + (binds D).length })
    (hco : scope.isCoroutine = false) (hgen : scope.isGenerator = false) (hk : scope.kind = .function)
    (hcell : ∀ x ∈ scope.names, x.2 ≠ .cell) : codeAny (model prog w) A (.call (.ref f) args) R s := by
  refine codeAny_call_function (fd := fnOf name qual params body scope dV kV doc pm an cdv ct) (body := body) hroom (X _ _ ho) rfl hco hgen rfl (codeRec_of X hcd) ?_
  refine wp_of_peek0 (o := ({ cls := .type "tuple", data := .seq vs.toArray } : Obj)) (r := binds) X ?_ _ g₁ hp hg
  have kp : ∀ b o, s.heap.get? b = some o → (s.heap.push ({ cls := .type "tuple", data := .seq vs.toArray } : Obj)).get? b = some o := fun b x hb => Heap.get?_push_of_some _ hb
  refine wpAny_newFunctionEnv hcell (hloc _) (fun h₀ hns₀ hsb₀ => ⟨(hlim.keeps kp).fresh _ hsb₀, codeAny_func ?_⟩) hk
  exact wpAny_mono (h s.heap.objs.size (s.heap.push ({ cls := .type "tuple", data := .seq vs.toArray } : Obj)) _ h₀ kp ⟨_, Heap.get?_push_size _ rfl, rfl, _, rfl⟩ ⟨hns₀, fun b o e => hsb₀.extBut b o (Nat.ne_of_lt (Heap.lt_size e)) (Heap.get?_push_of_some _ e), Nat.le_refl _⟩ News.nil) (fun _ _ y => y) (fun _ _ y => y.elim)
end
end
local macro_rules | `(tactic| walk_at "mine hh") => `(tactic| first | exact Room.hhd (by assumption) | exact Room.hh (by assumption))
local macro_rules | `(tactic| walk_at "mine enter") => `(tactic| (k_dflt (refine' enter ?k1 ?k2 ?k6 ?k7 ?k8 ?k9 ?kB ?_ ?c2 ?c3 ?c4 ?c5; (case k1 => k_asm); (case k2 => exact Top.nolimit (by assumption)); (case k6 => k_is); (case k7 => k_is); (case k8 => first | exact Nat.lt_of_le_of_lt (Nat.le_add_right _ _) (Room.hd (by assumption)) | (have hR9 := Room.hd (by assumption); omega)); (case k9 => first | exact BindsTo.of_eq rfl | exact binds_K (by k_in) rfl (by k_is) rfl rfl rfl); (case c5 => decide); (case kB => exact locs rfl); (case c2 => exact rfl); (case c3 => exact rfl); (case c4 => exact rfl)); intro L' h' F' N'; (try dsimp only); (try k_fold)))
local macro_rules | `(tactic| walk_at "mine go") => `(tactic| repeat' ((fail_if_success (with_reducible show Ret _ _ _ _)); first | (k_unfold; (try dsimp only)) | ((fail_if_success (with_reducible show wpAny _ _ (exec (Stmt.Raise _ _ _) _) _ _ _)); (fail_if_success (with_reducible show wpAny _ _ (exec (Stmt.For _ _ _ _ _) _) _ _ _)); (fail_if_success (with_reducible show wpAny _ _ (exec (Stmt.While _ _ _ _) _) _ _ _)); (fail_if_success (with_reducible show wpAny _ _ (eval (Expr.ListComp _ _ _ _) _) _ _ _)); (fail_if_success (with_reducible show wpAny _ _ (exec (Stmt.Assign _ (Expr.ListComp _ _ _ _) _) _) _ _ _)); (first | walk1 | (dsimp only; walk1))) | fail "stop"))
local macro_rules | `(tactic| walk_at "mine bas") => `(tactic| first | assumption | exact Bas.at (by assumption) (by assumption) (by assumption))
local macro_rules | `(tactic| walk_at "mine room") => `(tactic| first | assumption | exact Room.le (Room.deeper (by assumption) _) (by decide) | exact Room.le (by assumption) (by decide))
local macro_rules | `(tactic| walk_at "mine le") => `(tactic| first | assumption | omega | (rw [sizeLine_eq]; omega) | (simp only [List.size_toArray, List.length_map, sizeLine_eq] at *; omega) | (exact Nat.le_trans (by assumption) (by decide)))
local macro_rules | `(tactic| walk_at "mine look") => `(tactic| first | with_reducible assumption | ((repeat refine Eq.trans (if_neg (by decide +kernel)) ?_); first | with_reducible assumption | (refine Eq.trans (if_pos rfl) ?_; exact rfl)) | exact rfl)
local macro_rules | `(tactic| walk_at "eval Name") => `(tactic| k_dflt ((k_here; k_dflt (refine' nameX_L ?F ?v ?_ ?a ?b; (case F => k_asm); (case a => rfl); (case b => first | kernel_rfl | rfl); (case v => walk_at "mine look"); k_whole))))
local macro_rules | `(tactic| walk_at "mine side") => `(tactic| first | assumption | walk_at "mine le")
local macro_rules | `(tactic| walk_at "call builtin:len") => `(tactic| k_dflt (((with_reducible show wpAny _ _ (call (Value.builtin "len") [Value.bytes _ _]) _ _ _); refine len_bytes ?hz ?_; (case hz => walk_at "mine le"))))
local macro_rules | `(tactic| walk_at "subscriptTail") => `(tactic| k_dflt (((with_reducible show wpAny _ _ (subscriptTail _ _ (Value.bytes (List.toArray _) _) (Value.int _ _)) _ _ _); refine' KBy.item_N ?h1 ?h2 ?h3 ?_; (case h1 => walk_at "mine le"); (case h2 => walk_at "mine le"); (case h3 => walk_at "mine le"))))
local macro_rules | `(tactic| walk_at "binaryOp LShift int int") => `(tactic| k_dflt ((refine' lshift_int_small ?h1 ?h2 ?h3 ?_; (case h1 => walk_at "mine le"); (case h2 => walk_at "mine le"); (case h3 => walk_at "mine le"))))
local macro_rules | `(tactic| walk_at "call type:bytes") => `(tactic| k_dflt ((k_here; (with_reducible show wpAny _ _ (call (Value.type "bytes") [Value.ref _]) _ _ _); k_dflt (refine' bytes_K ?F ?N ?hl ?hi ?hr ?hz ?hh ?_; (case F => k_asm); (case N => k_asm); (case hl => exact News.isList (by k_asm) (by k_mem)); (case hi => assumption); (case hr => assumption); (case hz => walk_at "mine le"); (case hh => walk_at "mine hh")); intro h' t' k' F' N' hb'; k_sweep; (try dsimp only); (try k_fold))))
local macro_rules | `(tactic| walk_at "loadName") => `(tactic| k_dflt ((k_here; refine' ldn ?F ?v ?_; (case F => k_asm); (case v => walk_at "mine look"))))
local macro_rules | `(tactic| walk_at "mine upto") => `(tactic| repeat ((fail_if_success (with_reducible show wpAny _ _ (execs _ _) _ _ _)); first | (k_unfold; (try dsimp only)) | walk1 | (dsimp only; walk1)))
-- X1
section
namespace SR
open PySem.Sre PySem.Sre.M
def code : Array Nat := #[14, 4, 0, 2, 4294967295, 17, 0, 24, 11, 0, 1, 13, 6, 16, 60, 16, 62, 0, 1, 17, 1, 17, 2, 13, 8, 22, 97, 122, 22, 65, 90, 0, 17, 3, 17, 4, 24, 9, 1, 4294967295, 13, 4, 8, 10, 0, 1, 17, 5, 17, 6, 24, 9, 0, 4294967295, 13, 4, 8, 12, 0, 1, 17, 7, 1]
/-- the signs that formats are made of -/
def Sign (c : Nat) : Prop := c ∈ [32, 48, 49, 50, 51, 52, 53, 54, 55, 56, 57, 62, 80, 98, 112, 114, 115, 116, 117]
theorem uni_dec : ∀ c ∈ [32, 48, 49, 50, 51, 52, 53, 54, 55, 56, 57, 62, 80, 98, 112, 114, 115, 116, 117], Unicode.isDecimal c = decide (48 ≤ c ∧ c ≤ 57) := by decide +kernel
theorem uni_spc : ∀ c ∈ [32, 48, 49, 50, 51, 52, 53, 54, 55, 56, 57, 62, 80, 98, 112, 114, 115, 116, 117], Unicode.isSpace c = decide (c = 32) := by decide +kernel
abbrev mk (X : Array Nat) (s pc pos handed : Nat) (marks : Array (Option Nat)) (lm li : Int) (frames : List Sre.Frame) (weight : Nat) (ans : Option Bool) (seen : Sre.Seen) : Sre.M :=
  { code := code, text := X, lim := X.size, start := s, lastStart := max s (X.size - 1), pc, pos, handed, marks, lastmark := lm, lastindex := li, frames, weight, answer := ans, seen }
theorem rep {m : Sre.M} {n : Nat} {seen' : Sre.Seen} (ho : m.outcome = none) (ha : m.answer = none) (hpc : m.pc < m.code.size) (hop : ops[m.word 0]? = some .REPEAT_ONE) (hl : ¬ ((m.word 2 : Int) > (m.lim : Int) - m.pos))
    (hr : Sre.run m.code m.text (m.pc + 4) (min (m.word 3) ((m.lim : Int) - m.pos).toNat) m.pos 0 ((m.seen.add (m.word 0)).add (m.word 4)) = .ok (n, seen')) (hn : ¬ n < m.word 2) :
    step m = ({ m with seen := seen', pos := m.pos + n } : Sre.M).afterRun .giveBack n (({ m with seen := seen' } : Sre.M).keep m.inner.isSome) := by
  obtain ⟨cd, tx, lim, start, ls, wt, mu, pc, pos, hd, om, mk, lm, li, lo, inn, fr, we, an, sn, oc⟩ := m
  dsimp only at ho ha hpc hop hl hr hn
  subst ho ha
  unfold M.step
  simp only [Option.isSome_none, Bool.false_eq_true, if_false, if_pos hpc]
  unfold M.exec
  dsimp only [M.word] at hop hl hr hn ⊢
  rw [hop]
  dsimp only
  rw [if_neg hl]
  simp only [Bool.false_eq_true, if_false]
  rw [hr]
  dsimp only
  rw [if_neg hn]
  rfl
theorem inn {m : Sre.M} {seen' : Sre.Seen} (ho : m.outcome = none) (ha : m.answer = none) (hpc : m.pc < m.code.size) (hop : ops[m.word 0]? = some .IN) (hl : m.pos < m.lim)
    (hr : accepts m.code m.pc (m.text.getD m.pos 0) (m.seen.add (m.word 0)) = .ok (true, seen')) :
    step m = { m with seen := seen', pc := m.pc + itemWidth m.code m.pc, pos := m.pos + 1 } := by
  obtain ⟨cd, tx, lim, start, ls, wt, mu, pc, pos, hd, om, mk, lm, li, lo, inn, fr, we, an, sn, oc⟩ := m
  dsimp only at ho ha hpc hop hl hr
  subst ho ha
  unfold M.step
  simp only [Option.isSome_none, Bool.false_eq_true, if_false, if_pos hpc]
  unfold M.exec
  dsimp only [M.word] at hop hr ⊢
  rw [hop]
  dsimp only
  rw [if_neg (Nat.not_le.mpr hl), hr]
/-- a run of signs that the set takes -/
theorem run_all {X : Array Nat} {i : Nat} (p : Nat → Bool) (hy : ∀ c sn, Sign c → ∃ sn', accepts code i c sn = .ok (p c, sn')) :
    ∀ (k n pos found : Nat) (sn : Sre.Seen), k ≤ n → (∀ j, j < k → Sign (X.getD (pos + j) 0) ∧ p (X.getD (pos + j) 0) = true) → (k < n → Sign (X.getD (pos + k) 0) ∧ p (X.getD (pos + k) 0) = false) →
      ∃ sn', Sre.run code X i n pos found sn = .ok (found + k, sn')
  | 0, 0, pos, found, sn, _, _, _ => ⟨sn, rfl⟩
  | 0, n + 1, pos, found, sn, _, _, h => by
    obtain ⟨h1, h2⟩ := h (Nat.succ_pos n)
    obtain ⟨sn', e⟩ := hy _ sn h1
    refine ⟨sn', ?_⟩
    rw [Nat.add_zero] at h1 h2 e
    unfold Sre.run
    rw [e, h2]; rfl
  | k + 1, 0, _, _, _, h, _, _ => absurd h (by omega)
  | k + 1, n + 1, pos, found, sn, hk, h, h' => by
    obtain ⟨h1, h2⟩ := h 0 (Nat.succ_pos k)
    rw [Nat.add_zero] at h1 h2
    obtain ⟨sn', e⟩ := hy _ sn h1
    obtain ⟨sn'', e'⟩ := run_all p hy k n (pos + 1) (found + 1) sn' (by omega) (fun j hj => by have := h (j + 1) (by omega); rwa [show pos + (j + 1) = pos + 1 + j by omega] at this) (fun hk' => by have := h' (by omega); rwa [show pos + (k + 1) = pos + 1 + k by omega] at this)
    refine ⟨sn'', ?_⟩
    unfold Sre.run
    rw [e, h2]
    show Sre.run code X i n (pos + 1) (found + 1) sn' = _
    rw [e', show found + 1 + k = found + (k + 1) by omega]
theorem acc_pre (c : Nat) (sn : Sre.Seen) (h : Sign c) : ∃ sn', accepts code 11 c sn = .ok (c == 62, sn') := by
  have key : ∀ c ∈ [32, 48, 49, 50, 51, 52, 53, 54, 55, 56, 57, 62, 80, 98, 112, 114, 115, 116, 117], (c == 60) = false := by decide
  have h60 := key c h
  by_cases h2 : (c == 62) = true
  · refine ⟨(sn.add 16).add 16, ?_⟩
    show inSet code c 63 13 true sn = _
    unfold inSet
    show (if (c == 60) = true then _ else inSet code c 62 15 true (sn.add 16)) = _
    rw [if_neg (by rw [h60]; decide)]
    unfold inSet
    show (if (c == 62) = true then _ else _) = _
    rw [if_pos h2, h2]; rfl
  · refine ⟨((sn.add 16).add 16).add 0, ?_⟩
    show inSet code c 63 13 true sn = _
    unfold inSet
    show (if (c == 60) = true then _ else inSet code c 62 15 true (sn.add 16)) = _
    rw [if_neg (by rw [h60]; decide)]
    unfold inSet
    show (if (c == 62) = true then _ else inSet code c 61 17 true ((sn.add 16).add 16)) = _
    rw [if_neg h2, Bool.eq_false_iff.mpr h2]
    rfl
theorem acc_dig (c : Nat) (sn : Sre.Seen) (h : Sign c) : ∃ sn', accepts code 40 c sn = .ok (decide (48 ≤ c ∧ c ≤ 57), sn') := by
  have hu := uni_dec c h
  cases hd : decide (48 ≤ c ∧ c ≤ 57) with
  | true =>
    rw [hd] at hu
    refine ⟨(sn.add 8).add 65, ?_⟩
    show inSet code c 63 42 true sn = _
    unfold inSet
    show (do if ← (Except.ok (Unicode.isDecimal c) : Except String Bool).map (· != (10 % 2 == 1)) then pure (true, (sn.add 8).add 65) else inSet code c 62 44 true ((sn.add 8).add 65)) = _
    rw [hu]
    rfl
  | false =>
    rw [hd] at hu
    refine ⟨((sn.add 8).add 65).add 0, ?_⟩
    show inSet code c 63 42 true sn = _
    unfold inSet
    show (do if ← (Except.ok (Unicode.isDecimal c) : Except String Bool).map (· != (10 % 2 == 1)) then _ else inSet code c 62 44 true ((sn.add 8).add 65)) = _
    rw [hu]
    rfl
theorem acc_spc (c : Nat) (sn : Sre.Seen) (h : Sign c) : ∃ sn', accepts code 54 c sn = .ok (decide (c = 32), sn') := by
  have hu := uni_spc c h
  cases hd : decide (c = 32) with
  | true =>
    rw [hd] at hu
    refine ⟨(sn.add 8).add 67, ?_⟩
    show inSet code c 63 56 true sn = _
    unfold inSet
    show (do if ← (Except.ok (Unicode.isSpace c) : Except String Bool).map (· != (12 % 2 == 1)) then pure (true, (sn.add 8).add 67) else inSet code c 62 58 true ((sn.add 8).add 67)) = _
    rw [hu]
    rfl
  | false =>
    rw [hd] at hu
    refine ⟨((sn.add 8).add 67).add 0, ?_⟩
    show inSet code c 63 56 true sn = _
    unfold inSet
    show (do if ← (Except.ok (Unicode.isSpace c) : Except String Bool).map (· != (12 % 2 == 1)) then _ else inSet code c 62 58 true ((sn.add 8).add 67)) = _
    rw [hu]
    rfl
def Letter (c : Nat) : Prop := c = 80 ∨ c = 98 ∨ c = 112 ∨ c = 114 ∨ c = 115 ∨ c = 116 ∨ c = 117
theorem acc_let (c : Nat) (sn : Sre.Seen) (h : Letter c) : ∃ sn', accepts code 23 c sn = .ok (true, sn') := by
  rcases h with rfl | rfl | rfl | rfl | rfl | rfl | rfl <;> exact ⟨_, rfl⟩
end SR
end
-- X2
section
namespace SR
open PySem.Sre PySem.Sre.M
def F0 (s : Nat) : Sre.Frame := { wait := .nextStart, pc := 5, pos := s, outermost := true }
def F1 (p n : Nat) : Sre.Frame := { wait := .giveBack, pc := 7, pos := p, outermost := true, count := n, kept := { lastmark := 0, lastindex := -1, whole := false, marks := #[] } }
def F2 (p n : Nat) : Sre.Frame := { wait := .giveBack, pc := 36, pos := p, outermost := true, count := n, kept := { lastmark := 4, lastindex := 2, whole := false, marks := #[] } }
def F3 (p n : Nat) : Sre.Frame := { wait := .giveBack, pc := 50, pos := p, outermost := true, count := n, kept := { lastmark := 6, lastindex := 3, whole := false, marks := #[] } }
/-- a token stands at s: its sign before, its letter, its digits, its blanks -/
structure Tok (X : Array Nat) (s n1 nd ns : Nat) : Prop where
  all : ∀ j, j < X.size → Sign (X.getD j 0)
  pre1 : n1 ≤ 1
  pre : n1 = 1 → X.getD s 0 = 62
  pre0 : n1 = 0 → X.getD s 0 ≠ 62
  letter : Letter (X.getD (s + n1) 0)
  dig0 : 1 ≤ nd
  dig : ∀ j, j < nd → 48 ≤ X.getD (s + n1 + 1 + j) 0 ∧ X.getD (s + n1 + 1 + j) 0 ≤ 57
  spc : ∀ j, j < ns → X.getD (s + n1 + 1 + nd + j) 0 = 32
  fits : s + n1 + 1 + nd + ns ≤ X.size
  stop : s + n1 + 1 + nd + ns < X.size → X.getD (s + n1 + 1 + nd + ns) 0 ≠ 32 ∧ ¬ (48 ≤ X.getD (s + n1 + 1 + nd + ns) 0 ∧ X.getD (s + n1 + 1 + nd + ns) 0 ≤ 57)
theorem four {a b c d e : Sre.M} (ha : a.outcome = none) (hb : b.outcome = none) (hc : c.outcome = none) (hd : d.outcome = none) (h1 : step a = b) (h2 : step b = c) (h3 : step c = d) (h4 : step d = e) : runFor 4 a = e := by
  unfold M.runFor
  rw [ha, h1]
  unfold M.runFor
  rw [hb, h2]
  unfold M.runFor
  rw [hc, h3]
  unfold M.runFor
  rw [hd, h4]
  rfl
theorem token {X : Array Nat} {s n1 nd ns : Nat} (K : Tok X s n1 nd ns) (hbig : X.size < 4294967295) : ∃ m4 m8 m12 m16 m18 : Sre.M,
    runFor 4 (forSearch code X 4 s X.size false) = m4 ∧ m4.outcome = none ∧ runFor 4 m4 = m8 ∧ m8.outcome = none ∧ runFor 4 m8 = m12 ∧ m12.outcome = none ∧ runFor 4 m12 = m16 ∧ m16.outcome = none ∧ runFor 4 m16 = m18 ∧
    m18.outcome = some .matched ∧ m18.start = s ∧ m18.handed = s + n1 + 1 + nd + ns ∧ m18.lastmark = 7 ∧
    m18.marks = #[some s, some (s + n1), some (s + n1), some (s + n1 + 1), some (s + n1 + 1), some (s + n1 + 1 + nd), some (s + n1 + 1 + nd), some (s + n1 + 1 + nd + ns)] := by
  have hf := K.fits
  have hd0 := K.dig0
  have h0 : forSearch code X 4 s X.size false = mk X s 5 s s (Array.replicate 8 none) (-1) (-1) [F0 s] 1 none (({} : Sre.Seen).add 14) := by
    unfold forSearch
    have c1 : (decide (s > X.size) || decide (X.size - s < 2)) = false := by
      rw [Bool.or_eq_false_iff, decide_eq_false_iff_not, decide_eq_false_iff_not]; omega
    show (if (decide (s > X.size) || decide (X.size - s < 2)) = true then _ else _) = _
    rw [c1]
    rfl
  have h1 : ∀ sn, step (mk X s 5 s s (Array.replicate 8 none) (-1) (-1) [F0 s] 1 none sn) = mk X s 7 s s #[some s, none, none, none, none, none, none, none] 0 (-1) [F0 s] 1 none (sn.add 17) := fun _ => by kernel_rfl
  have hr2 : ∀ sn, ∃ sn', Sre.run code X 11 (min 1 ((X.size : Int) - (s : Nat)).toNat) s 0 sn = .ok (0 + n1, sn') := fun sn =>
    run_all (fun c => c == 62) acc_pre n1 _ s 0 sn (by have := K.pre1; omega) (fun j hj => by
      have h1 := K.pre1
      have : j = 0 ∧ n1 = 1 := by omega
      obtain ⟨rfl, h⟩ := this
      exact ⟨K.all _ (by omega), by rw [Nat.add_zero, K.pre h]; rfl⟩) (fun h => by
      have h1 := K.pre1
      have : n1 = 0 := by omega
      exact ⟨K.all _ (by omega), by rw [this, Nat.add_zero]; exact beq_eq_false_iff_ne.mpr (K.pre0 this)⟩)
  have h2 : ∀ sn, ∃ sn', step (mk X s 7 s s #[some s, none, none, none, none, none, none, none] 0 (-1) [F0 s] 1 none sn) = mk X s 19 (s + n1) (s + n1) #[some s, none, none, none, none, none, none, none] 0 (-1) [F1 (s + n1) n1, F0 s] 2 none sn' := fun sn => by
    obtain ⟨sn', e⟩ := hr2 ((sn.add 24).add 13)
    rw [Nat.zero_add] at e
    exact ⟨sn', (rep (m := mk X s 7 s s #[some s, none, none, none, none, none, none, none] 0 (-1) [F0 s] 1 none sn) rfl rfl (Nat.le_of_ble_eq_true rfl) rfl (by show ¬ (((0 : Nat) : Int) > (X.size : Int) - (s : Nat)); omega) e (Nat.not_lt_zero _)).trans rfl⟩
  have h3 : ∀ sn, step (mk X s 19 (s + n1) (s + n1) #[some s, none, none, none, none, none, none, none] 0 (-1) [F1 (s + n1) n1, F0 s] 2 none sn) = mk X s 21 (s + n1) (s + n1) #[some s, some (s + n1), none, none, none, none, none, none] 1 1 [F1 (s + n1) n1, F0 s] 2 none (sn.add 17) := fun _ => by kernel_rfl
  have h4 : ∀ sn, step (mk X s 21 (s + n1) (s + n1) #[some s, some (s + n1), none, none, none, none, none, none] 1 1 [F1 (s + n1) n1, F0 s] 2 none sn) = mk X s 23 (s + n1) (s + n1) #[some s, some (s + n1), some (s + n1), none, none, none, none, none] 2 1 [F1 (s + n1) n1, F0 s] 2 none (sn.add 17) := fun _ => by kernel_rfl
  have h5 : ∀ sn, ∃ sn', step (mk X s 23 (s + n1) (s + n1) #[some s, some (s + n1), some (s + n1), none, none, none, none, none] 2 1 [F1 (s + n1) n1, F0 s] 2 none sn) = mk X s 32 (s + n1 + 1) (s + n1) #[some s, some (s + n1), some (s + n1), none, none, none, none, none] 2 1 [F1 (s + n1) n1, F0 s] 2 none sn' := fun sn => by
    obtain ⟨sn', e⟩ := acc_let _ (sn.add 13) K.letter
    exact ⟨sn', (inn (m := mk X s 23 (s + n1) (s + n1) #[some s, some (s + n1), some (s + n1), none, none, none, none, none] 2 1 [F1 (s + n1) n1, F0 s] 2 none sn) rfl rfl (Nat.le_of_ble_eq_true rfl) rfl (by show s + n1 < X.size; omega) e).trans rfl⟩
  have h6 : ∀ sn, step (mk X s 32 (s + n1 + 1) (s + n1) #[some s, some (s + n1), some (s + n1), none, none, none, none, none] 2 1 [F1 (s + n1) n1, F0 s] 2 none sn) = mk X s 34 (s + n1 + 1) (s + n1) #[some s, some (s + n1), some (s + n1), some (s + n1 + 1), none, none, none, none] 3 2 [F1 (s + n1) n1, F0 s] 2 none (sn.add 17) := fun _ => by kernel_rfl
  have h7 : ∀ sn, step (mk X s 34 (s + n1 + 1) (s + n1) #[some s, some (s + n1), some (s + n1), some (s + n1 + 1), none, none, none, none] 3 2 [F1 (s + n1) n1, F0 s] 2 none sn) = mk X s 36 (s + n1 + 1) (s + n1) #[some s, some (s + n1), some (s + n1), some (s + n1 + 1), some (s + n1 + 1), none, none, none] 4 2 [F1 (s + n1) n1, F0 s] 2 none (sn.add 17) := fun _ => by kernel_rfl
  have hr8 : ∀ sn, ∃ sn', Sre.run code X 40 (min 4294967295 ((X.size : Int) - ((s + n1 + 1 : Nat) : Int)).toNat) (s + n1 + 1) 0 sn = .ok (0 + nd, sn') := fun sn =>
    run_all (fun c => decide (48 ≤ c ∧ c ≤ 57)) acc_dig nd _ (s + n1 + 1) 0 sn (by omega) (fun j hj => ⟨K.all _ (by omega), decide_eq_true (K.dig j hj)⟩) (fun h => by
      refine ⟨K.all _ (by omega), decide_eq_false ?_⟩
      rcases Nat.eq_zero_or_pos ns with h0 | h0
      · have := (K.stop (by omega)).2
        rwa [h0] at this
      · have := K.spc 0 h0
        rw [Nat.add_zero] at this
        omega)
  have h8 : ∀ sn, ∃ sn', step (mk X s 36 (s + n1 + 1) (s + n1) #[some s, some (s + n1), some (s + n1), some (s + n1 + 1), some (s + n1 + 1), none, none, none] 4 2 [F1 (s + n1) n1, F0 s] 2 none sn) = mk X s 46 (s + n1 + 1 + nd) (s + n1 + 1 + nd) #[some s, some (s + n1), some (s + n1), some (s + n1 + 1), some (s + n1 + 1), none, none, none] 4 2 [F2 (s + n1 + 1 + nd) nd, F1 (s + n1) n1, F0 s] 3 none sn' := fun sn => by
    obtain ⟨sn', e⟩ := hr8 ((sn.add 24).add 13)
    rw [Nat.zero_add] at e
    exact ⟨sn', (rep (m := mk X s 36 (s + n1 + 1) (s + n1) #[some s, some (s + n1), some (s + n1), some (s + n1 + 1), some (s + n1 + 1), none, none, none] 4 2 [F1 (s + n1) n1, F0 s] 2 none sn) rfl rfl (Nat.le_of_ble_eq_true rfl) rfl (by show ¬ (((1 : Nat) : Int) > (X.size : Int) - ((s + n1 + 1 : Nat) : Int)); omega) e (by show ¬ nd < 1; omega)).trans rfl⟩
  have h9 : ∀ sn, step (mk X s 46 (s + n1 + 1 + nd) (s + n1 + 1 + nd) #[some s, some (s + n1), some (s + n1), some (s + n1 + 1), some (s + n1 + 1), none, none, none] 4 2 [F2 (s + n1 + 1 + nd) nd, F1 (s + n1) n1, F0 s] 3 none sn) = mk X s 48 (s + n1 + 1 + nd) (s + n1 + 1 + nd) #[some s, some (s + n1), some (s + n1), some (s + n1 + 1), some (s + n1 + 1), some (s + n1 + 1 + nd), none, none] 5 3 [F2 (s + n1 + 1 + nd) nd, F1 (s + n1) n1, F0 s] 3 none (sn.add 17) := fun _ => by kernel_rfl
  have h10 : ∀ sn, step (mk X s 48 (s + n1 + 1 + nd) (s + n1 + 1 + nd) #[some s, some (s + n1), some (s + n1), some (s + n1 + 1), some (s + n1 + 1), some (s + n1 + 1 + nd), none, none] 5 3 [F2 (s + n1 + 1 + nd) nd, F1 (s + n1) n1, F0 s] 3 none sn) = mk X s 50 (s + n1 + 1 + nd) (s + n1 + 1 + nd) #[some s, some (s + n1), some (s + n1), some (s + n1 + 1), some (s + n1 + 1), some (s + n1 + 1 + nd), some (s + n1 + 1 + nd), none] 6 3 [F2 (s + n1 + 1 + nd) nd, F1 (s + n1) n1, F0 s] 3 none (sn.add 17) := fun _ => by kernel_rfl
  have hr11 : ∀ sn, ∃ sn', Sre.run code X 54 (min 4294967295 ((X.size : Int) - ((s + n1 + 1 + nd : Nat) : Int)).toNat) (s + n1 + 1 + nd) 0 sn = .ok (0 + ns, sn') := fun sn =>
    run_all (fun c => decide (c = 32)) acc_spc ns _ (s + n1 + 1 + nd) 0 sn (by omega) (fun j hj => ⟨K.all _ (by omega), decide_eq_true (K.spc j hj)⟩) (fun h => ⟨K.all _ (by omega), decide_eq_false (K.stop (by omega)).1⟩)
  have h11 : ∀ sn, ∃ sn', step (mk X s 50 (s + n1 + 1 + nd) (s + n1 + 1 + nd) #[some s, some (s + n1), some (s + n1), some (s + n1 + 1), some (s + n1 + 1), some (s + n1 + 1 + nd), some (s + n1 + 1 + nd), none] 6 3 [F2 (s + n1 + 1 + nd) nd, F1 (s + n1) n1, F0 s] 3 none sn) = mk X s 60 (s + n1 + 1 + nd + ns) (s + n1 + 1 + nd + ns) #[some s, some (s + n1), some (s + n1), some (s + n1 + 1), some (s + n1 + 1), some (s + n1 + 1 + nd), some (s + n1 + 1 + nd), none] 6 3 [F3 (s + n1 + 1 + nd + ns) ns, F2 (s + n1 + 1 + nd) nd, F1 (s + n1) n1, F0 s] 4 none sn' := fun sn => by
    obtain ⟨sn', e⟩ := hr11 ((sn.add 24).add 13)
    rw [Nat.zero_add] at e
    exact ⟨sn', (rep (m := mk X s 50 (s + n1 + 1 + nd) (s + n1 + 1 + nd) #[some s, some (s + n1), some (s + n1), some (s + n1 + 1), some (s + n1 + 1), some (s + n1 + 1 + nd), some (s + n1 + 1 + nd), none] 6 3 [F2 (s + n1 + 1 + nd) nd, F1 (s + n1) n1, F0 s] 3 none sn) rfl rfl (Nat.le_of_ble_eq_true rfl) rfl (by show ¬ (((0 : Nat) : Int) > (X.size : Int) - ((s + n1 + 1 + nd : Nat) : Int)); omega) e (Nat.not_lt_zero _)).trans rfl⟩
  have h12 : ∀ sn, step (mk X s 60 (s + n1 + 1 + nd + ns) (s + n1 + 1 + nd + ns) #[some s, some (s + n1), some (s + n1), some (s + n1 + 1), some (s + n1 + 1), some (s + n1 + 1 + nd), some (s + n1 + 1 + nd), none] 6 3 [F3 (s + n1 + 1 + nd + ns) ns, F2 (s + n1 + 1 + nd) nd, F1 (s + n1) n1, F0 s] 4 none sn) = mk X s 62 (s + n1 + 1 + nd + ns) (s + n1 + 1 + nd + ns) #[some s, some (s + n1), some (s + n1), some (s + n1 + 1), some (s + n1 + 1), some (s + n1 + 1 + nd), some (s + n1 + 1 + nd), some (s + n1 + 1 + nd + ns)] 7 4 [F3 (s + n1 + 1 + nd + ns) ns, F2 (s + n1 + 1 + nd) nd, F1 (s + n1) n1, F0 s] 4 none (sn.add 17) := fun _ => by kernel_rfl
  generalize hM : (#[some s, some (s + n1), some (s + n1), some (s + n1 + 1), some (s + n1 + 1), some (s + n1 + 1 + nd), some (s + n1 + 1 + nd), some (s + n1 + 1 + nd + ns)] : Array (Option Nat)) = MK at h12 ⊢
  have h13 : ∀ sn, step (mk X s 62 (s + n1 + 1 + nd + ns) (s + n1 + 1 + nd + ns) MK 7 4 [F3 (s + n1 + 1 + nd + ns) ns, F2 (s + n1 + 1 + nd) nd, F1 (s + n1) n1, F0 s] 4 none sn) = mk X s 62 (s + n1 + 1 + nd + ns) (s + n1 + 1 + nd + ns) MK 7 4 [F3 (s + n1 + 1 + nd + ns) ns, F2 (s + n1 + 1 + nd) nd, F1 (s + n1) n1, F0 s] 4 (some true) (sn.add 1) := fun _ => by kernel_rfl
  have h14 : ∀ sn, ∃ pc pos h fr w sn', runFor 4 (mk X s 62 (s + n1 + 1 + nd + ns) (s + n1 + 1 + nd + ns) MK 7 4 [F3 (s + n1 + 1 + nd + ns) ns, F2 (s + n1 + 1 + nd) nd, F1 (s + n1) n1, F0 s] 4 none sn) = mk X s pc pos h MK 7 4 fr w (some true) sn' ∧ fr = [F0 s] ∧ h = s + n1 + 1 + nd + ns := fun _ => ⟨_, _, _, _, _, _, rfl, rfl, rfl⟩
  obtain ⟨sn2, e2⟩ := h2 ((({} : Sre.Seen).add 14).add 17)
  obtain ⟨sn5, e5⟩ := h5 (((sn2.add 17).add 17))
  obtain ⟨sn8, e8⟩ := h8 ((sn5.add 17).add 17)
  obtain ⟨sn11, e11⟩ := h11 ((sn8.add 17).add 17)
  obtain ⟨pc', pos', hd', fr', w', sn', e14, rfl, rfl⟩ := h14 (sn11.add 17)
  have r1 : runFor 4 (forSearch code X 4 s X.size false) = mk X s 23 (s + n1) (s + n1) #[some s, some (s + n1), some (s + n1), none, none, none, none, none] 2 1 [F1 (s + n1) n1, F0 s] 2 none ((sn2.add 17).add 17) := by
    rw [h0]
    exact four rfl rfl rfl rfl (h1 _) e2 (h3 _) (h4 _)
  have r2 : runFor 4 (mk X s 23 (s + n1) (s + n1) #[some s, some (s + n1), some (s + n1), none, none, none, none, none] 2 1 [F1 (s + n1) n1, F0 s] 2 none ((sn2.add 17).add 17)) = mk X s 46 (s + n1 + 1 + nd) (s + n1 + 1 + nd) #[some s, some (s + n1), some (s + n1), some (s + n1 + 1), some (s + n1 + 1), none, none, none] 4 2 [F2 (s + n1 + 1 + nd) nd, F1 (s + n1) n1, F0 s] 3 none sn8 := by
    exact four rfl rfl rfl rfl e5 (h6 _) (h7 _) e8
  have r3 : runFor 4 (mk X s 46 (s + n1 + 1 + nd) (s + n1 + 1 + nd) #[some s, some (s + n1), some (s + n1), some (s + n1 + 1), some (s + n1 + 1), none, none, none] 4 2 [F2 (s + n1 + 1 + nd) nd, F1 (s + n1) n1, F0 s] 3 none sn8) = mk X s 62 (s + n1 + 1 + nd + ns) (s + n1 + 1 + nd + ns) MK 7 4 [F3 (s + n1 + 1 + nd + ns) ns, F2 (s + n1 + 1 + nd) nd, F1 (s + n1) n1, F0 s] 4 none (sn11.add 17) := by
    exact four rfl rfl rfl rfl (h9 _) (h10 _) e11 (h12 _)
  exact ⟨_, _, _, _, _, r1, rfl, r2, rfl, r3, rfl, e14, rfl, rfl, rfl, rfl, rfl, rfl, rfl⟩
end SR
end
-- X3
section
namespace SR
open PySem.Builtin PySem.Builtin.Re PySem.Sre
instance (c : Nat) : Decidable (Sign c) := inferInstanceAs (Decidable (c ∈ [32, 48, 49, 50, 51, 52, 53, 54, 55, 56, 57, 62, 80, 98, 112, 114, 115, 116, 117]))
/-- a token's text -/
structure Tk where
  p : List Nat
  c : Nat
  ds : List Nat
  ss : List Nat
def Tk.tx (t : Tk) : List Nat := t.p ++ (t.c :: (t.ds ++ t.ss))
structure Tk.Ok (t : Tk) : Prop where
  p : t.p = [] ∨ t.p = [62]
  c : Letter t.c
  d0 : t.ds ≠ []
  ds : ∀ d ∈ t.ds, 48 ≤ d ∧ d ≤ 57
  ss : ∀ d ∈ t.ss, d = 32
def txs (l : List Tk) : List Nat := l.flatMap Tk.tx
theorem let_sign {c : Nat} (h : Letter c) : Sign c := by rcases h with rfl | rfl | rfl | rfl | rfl | rfl | rfl <;> decide
theorem dig_sign {c : Nat} (h : 48 ≤ c ∧ c ≤ 57) : Sign c := by
  have : c = 48 ∨ c = 49 ∨ c = 50 ∨ c = 51 ∨ c = 52 ∨ c = 53 ∨ c = 54 ∨ c = 55 ∨ c = 56 ∨ c = 57 := by omega
  rcases this with rfl | rfl | rfl | rfl | rfl | rfl | rfl | rfl | rfl | rfl <;> decide
theorem Tk.Ok.sign {t : Tk} (h : t.Ok) : ∀ c ∈ t.tx, Sign c := by
  intro c hc
  unfold Tk.tx at hc
  rcases List.mem_append.mp hc with hc | hc
  · rcases h.p with e | e <;> rw [e] at hc
    · cases hc
    · cases hc with
      | head => decide
      | tail _ hc => cases hc
  · rcases List.mem_cons.mp hc with rfl | hc
    · exact let_sign h.c
    · rcases List.mem_append.mp hc with hc | hc
      · exact dig_sign (h.ds c hc)
      · rw [h.ss c hc]; decide
theorem Tk.Ok.head {t : Tk} (h : t.Ok) : ∃ c r, t.tx = c :: r ∧ (c = 62 ∨ Letter c) := by
  unfold Tk.tx
  rcases h.p with e | e <;> rw [e]
  · exact ⟨_, _, rfl, .inr h.c⟩
  · exact ⟨_, _, rfl, .inl rfl⟩
theorem getD_off (a b : List Nat) (j : Nat) : (a ++ b).toArray.getD (a.length + j) 0 = b[j]?.getD 0 := by
  rw [Array.getD_eq_getD_getElem?, List.getElem?_toArray, List.getElem?_append_right (by omega), Nat.add_sub_cancel_left]
theorem tok_at (pre : List Nat) (t : Tk) (post : List Tk) (hpre : ∀ c ∈ pre, Sign c) (ht : t.Ok) (hpost : ∀ u ∈ post, u.Ok) : Tok (pre ++ (t.tx ++ txs post)).toArray pre.length t.p.length t.ds.length t.ss.length := by
  have hs := ht.sign
  have hps : ∀ c ∈ txs post, Sign c := by
    intro c hc
    obtain ⟨u, hu, hc⟩ := List.mem_flatMap.mp hc
    exact (hpost u hu).sign c hc
  have hall : ∀ c ∈ pre ++ (t.tx ++ txs post), Sign c := by
    intro c hc
    rcases List.mem_append.mp hc with hc | hc
    · exact hpre c hc
    · rcases List.mem_append.mp hc with hc | hc
      · exact hs c hc
      · exact hps c hc
  have hd : 1 ≤ t.ds.length := List.length_pos_iff.mpr ht.d0
  have e1 : ∀ j, (pre ++ (t.tx ++ txs post)).toArray.getD (pre.length + j) 0 = (t.p ++ (t.c :: (t.ds ++ (t.ss ++ txs post))))[j]?.getD 0 := by
    intro j
    rw [getD_off]
    unfold Tk.tx
    simp only [List.append_assoc, List.cons_append]
  have e2 : ∀ j, (pre ++ (t.tx ++ txs post)).toArray.getD (pre.length + t.p.length + j) 0 = (t.c :: (t.ds ++ (t.ss ++ txs post)))[j]?.getD 0 := by
    intro j
    rw [Nat.add_assoc, e1, List.getElem?_append_right (by omega)]
    congr 2; omega
  have e3 : ∀ j, (pre ++ (t.tx ++ txs post)).toArray.getD (pre.length + t.p.length + 1 + j) 0 = (t.ds ++ (t.ss ++ txs post))[j]?.getD 0 := by
    intro j
    rw [show pre.length + t.p.length + 1 + j = pre.length + t.p.length + (j + 1) by omega, e2]; rfl
  have e4 : ∀ j, (pre ++ (t.tx ++ txs post)).toArray.getD (pre.length + t.p.length + 1 + t.ds.length + j) 0 = (t.ss ++ txs post)[j]?.getD 0 := by
    intro j
    rw [show pre.length + t.p.length + 1 + t.ds.length + j = pre.length + t.p.length + 1 + (t.ds.length + j) by omega, e3, List.getElem?_append_right (by omega)]
    congr 2; omega
  have e5 : ∀ j, (pre ++ (t.tx ++ txs post)).toArray.getD (pre.length + t.p.length + 1 + t.ds.length + t.ss.length + j) 0 = (txs post)[j]?.getD 0 := by
    intro j
    rw [show pre.length + t.p.length + 1 + t.ds.length + t.ss.length + j = pre.length + t.p.length + 1 + t.ds.length + (t.ss.length + j) by omega, e4, List.getElem?_append_right (by omega)]
    congr 2; omega
  have hlen : (pre ++ (t.tx ++ txs post)).toArray.size = pre.length + t.p.length + 1 + t.ds.length + t.ss.length + (txs post).length := by
    rw [List.size_toArray]
    unfold Tk.tx
    simp only [List.length_append, List.length_cons]; omega
  refine ⟨?_, ?_, ?_, ?_, ?_, hd, ?_, ?_, by omega, ?_⟩
  · intro j hj
    rw [Array.getD_eq_getD_getElem?, List.getElem?_toArray]
    rw [List.size_toArray] at hj
    rw [List.getElem?_eq_getElem hj]
    exact hall _ (List.getElem_mem hj)
  · rcases ht.p with e | e <;> rw [e] <;> decide
  · intro h
    have := e1 0
    rw [Nat.add_zero] at this
    rw [this]
    rcases ht.p with e | e
    · rw [e] at h; cases h
    · rw [e]; rfl
  · intro h
    have := e2 0
    rw [h, Nat.add_zero] at this
    rw [this]
    show t.c ≠ 62
    rcases ht.c with e | e | e | e | e | e | e <;> omega
  · have := e2 0
    rw [Nat.add_zero] at this
    rw [this]; exact ht.c
  · intro j hj
    rw [e3, List.getElem?_append_left hj, List.getElem?_eq_getElem hj]
    exact ht.ds _ (List.getElem_mem hj)
  · intro j hj
    rw [e4, List.getElem?_append_left hj, List.getElem?_eq_getElem hj]
    exact ht.ss _ (List.getElem_mem hj)
  · intro h
    have := e5 0
    rw [Nat.add_zero] at this
    rw [this]
    cases post with
    | nil => rw [hlen] at h; simp [txs] at h
    | cons u r =>
      obtain ⟨c, q, e, hc⟩ := (hpost u (.head _)).head
      have : txs (u :: r) = c :: (q ++ txs r) := by show u.tx ++ _ = _; rw [e]; rfl
      rw [this]
      show c ≠ 32 ∧ ¬ (48 ≤ c ∧ c ≤ 57)
      rcases hc with rfl | hc
      · decide
      · rcases hc with rfl | rfl | rfl | rfl | rfl | rfl | rfl <;> decide
/-- the four pieces -/
theorem cut (a b c : List Nat) : (a ++ (b ++ c)).toArray.extract a.length (a.length + b.length) = b.toArray := by
  apply Array.toList_inj.mp
  rw [Array.toList_extract]
  simp [List.extract_eq_take_drop]
end SR
end
-- C1
section
section
open PyProof.Rows.LCg
variable {prog : Program} {w : World} {A : Around} {s : Shared} {h₀ : Heap} {L : Addr} {m : PySem.Str → Option Value} {env : Env} {elt : PySem.Expr} {x : PySem.Str} {scope : Scope} {cl : List (PySem.Str × Addr)} {S : List (Addr × Obj) → Prop} {P : Nat → Value → Prop} {Fin : List Value → List (Addr × Obj) → Prop} {news : List (Addr × Obj)} {n : Nat}
/-- the turns of a list comprehension, by a word J of what stands after each -/
theorem comp_J (J : Nat → List Value → List (Addr × Obj) → Prop) (h0 : J 0 [] news)
    (turn : ∀ i v I oI C oC D m₂ ys nw h tk (E' : Value → Shared → Prop), i < n → P i v → J i ys nw → NsObj oC m₂ → m₂ x = some v → Fr h₀ L h m → News h₀ L h ((I, oI) :: (C, oC) :: (D, lst ys) :: nw) → Off3 I C D nw → ((@Ne Nat I C) ∧ (@Ne Nat I D) ∧ (@Ne Nat C D)) →
      wpAny (model prog w) A (eval elt (compEnvC scope cl C env)) (CompEnd h₀ L m { s with heap := h, toks := tk } I oI C oC D (lst ys) S (fun y nw' => J (i + 1) (ys ++ [y]) nw')) E' { s with heap := h, toks := tk })
    (fin : ∀ ys nw, J n ys nw → Fin ys nw) : CompRest prog w A h₀ L m env elt x scope cl s S P Fin n 0 [] news := by
  have key : ∀ (j i : Nat) (ys : List Value) (nw : List (Addr × Obj)), i + j = n → J i ys nw → CompRest prog w A h₀ L m env elt x scope cl s S P Fin j i ys nw := by
    intro j
    induction j with
    | zero =>
      intro i ys nw hi hJ
      have e : i = n := by omega
      subst e
      exact CompRest.zero (fin ys nw hJ)
    | succ j ih =>
      intro i ys nw hi hJ
      refine CompRest.succ ?_
      intro v I oI C oC D m₂ h tk E' hv hC hx F N off ne
      refine wpAny_mono (turn i v I oI C oC D m₂ ys nw h tk E' (by omega) hv hJ hC hx F N off ne) (fun y s₂ hq => ?_) fun _ _ e => e
      obtain ⟨h', tk', nw', e, F', N', off', hS, hJ'⟩ := hq
      exact ⟨h', tk', nw', e, F', N', off', hS, ih (i + 1) _ _ (by omega) hJ'⟩
  exact key n 0 [] news (by omega) h0
end
end
-- L8
section
namespace TL
open PySem.SeqAt (EqAt RcAt)
/-- a list of values, each read by a relation -/
inductive Items2 {α : Type} (R : α → Value → Prop) : List α → List Value → Prop
  | nil : Items2 R [] []
  | cons {k : α} {v : Value} {ks : List α} {vs : List Value} : R k v → Items2 R ks vs → Items2 R (k :: ks) (v :: vs)
theorem Items2.length {α : Type} {R : α → Value → Prop} {x : List α} {vs : List Value} (h : Items2 R x vs) : x.length = vs.length := by
  induction h with
  | nil => rfl
  | cons _ _ ih => rw [List.length_cons, List.length_cons, ih]
/-- the order of rows: the first pair that differs, then the lengths -/
def lexB {α : Type} [DecidableEq α] (lt : α → α → Bool) : List α → List α → Bool
  | [], [] => false
  | [], _ :: _ => true
  | _ :: _, [] => false
  | a :: r, b :: q => if a = b then lexB lt r q else lt a b
def LtAt (A : Around) (s : Shared) (x y : Value) (b : Bool) : Prop :=
  ∀ (prog : Program) (w : World) (E : Value → Shared → Prop) (Q : Value → Shared → Prop), Q (.bool b) s → wpAny (model prog w) A (richCompare .Lt x y) Q E s
section
variable {prog : Program} {w : World} {A : Around} {E : Value → Shared → Prop} {s : Shared} {α : Type} [DecidableEq α] {R : α → Value → Prop} {lt : α → α → Bool} {x y : List α} {a b : Addr} {xs ys : Array Value} {oa ob : Obj} {na nb : Nat} {P : Fin → Shared → Prop}
theorem lt_tree (hoa : s.heap.get? a = some oa) (hda : oa.data = .seq xs na) (hob : s.heap.get? b = some ob) (hdb : ob.data = .seq ys nb) (hTb : s.TypeIs (.ref b) "tuple")
    (hia : Items2 R x xs.toList) (hib : Items2 R y ys.toList) (H : ∀ p u q v, R p u → R q v → EqAt A s u v (decide (p = q)) ∧ LtAt A s u v (lt p q)) (h : P (.done (.ret (.bool (lexB lt x y)))) s) :
    wpAny (model prog w) A (Builtin.«tuple.__lt__» ⟨[.ref a, .ref b], []⟩) P E s := by
  show wpAny _ _ (isInstance (.ref b) (.type "tuple") >>= _) _ _ s
  refine wpAny_bind (wpAny_isInstance hTb isSubtype_tuple_tuple ?_)
  simp only [Bool.not_true, Bool.false_eq_true, if_false]
  refine wpAny_bind (wpAny_tupleItemsOf hoa hda ?_)
  refine wpAny_bind (wpAny_tupleItemsOf hob hdb ?_)
  refine wpAny_bind ?_
  refine wpAny_forIn_list _
    (fun rest r s' => r.1 = none ∧ s' = s ∧ ∃ x' y' xs' ys', rest = List.zip xs' ys' ∧ Items2 R x' xs' ∧ Items2 R y' ys' ∧ lexB lt x' y' = lexB lt x y ∧ decide (xs'.length < ys'.length) = decide (xs.size < ys.size))
    _ ?_ ?_ _ _ ⟨rfl, rfl, x, y, xs.toList, ys.toList, rfl, hia, hib, rfl, by simp⟩
  · rintro ⟨u, v⟩ rest r s' ⟨hr, rfl, x', y', xs', ys', hz, hx', hy', hdec, hlen⟩
    cases hx' with
    | nil => simp at hz
    | @cons k1 u' x'' xs'' h1 hx'' =>
      cases hy' with
      | nil => simp at hz
      | @cons k2 v' y'' ys'' h2 hy'' =>
        simp only [List.zip_cons_cons, List.cons.injEq, Prod.mk.injEq] at hz
        obtain ⟨⟨rfl, rfl⟩, rfl⟩ := hz
        obtain ⟨e1, e2⟩ := H k1 u k2 v h1 h2
        refine wpAny_bind (e1 _ _ _ _ ?_)
        by_cases hk : k1 = k2
        · subst hk
          rw [decide_eq_true rfl]
          simp only [Bool.not_true, Bool.false_eq_true, if_false]
          refine wpAny_pure ⟨rfl, rfl, x'', y'', xs'', ys'', rfl, hx'', hy'', ?_, by simpa using hlen⟩
          rw [← hdec]
          show _ = (if k1 = k1 then _ else _)
          rw [if_pos rfl]
        · rw [decide_eq_false hk]
          simp only [Bool.not_false, if_true]
          have hf : lexB lt x y = lt k1 k2 := by
            rw [← hdec]
            show (if k1 = k2 then _ else _) = _
            rw [if_neg hk]
          rw [hf] at h
          refine wpAny_bind (wpAny_rule ?_)
          refine wpAny_bind (e2 _ _ _ _ ?_)
          exact wpAny_bind (wpAny_pure (wpAny_pure (wpAny_pure h)))
  · rintro ⟨r1, r2⟩ s' ⟨hr, rfl, x', y', xs', ys', hz, hx', hy', hdec, hlen⟩
    simp only at hr
    subst hr
    refine wpAny_pure ?_
    have hfin : decide (xs.size < ys.size) = lexB lt x y := by
      rw [← hdec, ← hlen]
      cases hx' with
      | nil =>
        cases hy' with
        | nil => rfl
        | cons _ _ => simp [lexB]
      | cons _ _ =>
        cases hy' with
        | nil => simp [lexB]
        | cons _ _ => simp at hz
    show P (.done (.ret (.bool (decide (xs.size < ys.size))))) s'
    rw [hfin]; exact h
theorem eq_tree (hoa : s.heap.get? a = some oa) (hda : oa.data = .seq xs na) (hob : s.heap.get? b = some ob) (hdb : ob.data = .seq ys nb) (hTb : s.TypeIs (.ref b) "tuple")
    (hia : Items2 R x xs.toList) (hib : Items2 R y ys.toList) (H : ∀ p u q v, R p u → R q v → EqAt A s u v (decide (p = q))) (h : P (.done (.ret (.bool (decide (x = y))))) s) :
    wpAny (model prog w) A (Builtin.«tuple.__eq__» ⟨[.ref a, .ref b], []⟩) P E s := by
  show wpAny _ _ (isInstance (.ref b) (.type "tuple") >>= _) _ _ s
  refine wpAny_bind (wpAny_isInstance hTb isSubtype_tuple_tuple ?_)
  simp only [Bool.not_true, Bool.false_eq_true, if_false]
  refine wpAny_bind (wpAny_tupleItemsOf hoa hda ?_)
  refine wpAny_bind (wpAny_tupleItemsOf hob hdb ?_)
  refine wpAny_bind ?_
  refine wpAny_forIn_list _
    (fun rest r s' => r.1 = none ∧ s' = s ∧ ∃ x' y' xs' ys', rest = List.zip xs' ys' ∧ Items2 R x' xs' ∧ Items2 R y' ys' ∧ decide (x' = y') = decide (x = y) ∧ (xs'.length == ys'.length) = (xs.size == ys.size))
    _ ?_ ?_ _ _ ⟨rfl, rfl, x, y, xs.toList, ys.toList, rfl, hia, hib, rfl, by simp⟩
  · rintro ⟨u, v⟩ rest r s' ⟨hr, rfl, x', y', xs', ys', hz, hx', hy', hdec, hlen⟩
    cases hx' with
    | nil => simp at hz
    | @cons k1 u' x'' xs'' h1 hx'' =>
      cases hy' with
      | nil => simp at hz
      | @cons k2 v' y'' ys'' h2 hy'' =>
        simp only [List.zip_cons_cons, List.cons.injEq, Prod.mk.injEq] at hz
        obtain ⟨⟨rfl, rfl⟩, rfl⟩ := hz
        refine wpAny_bind (H k1 u k2 v h1 h2 _ _ _ _ ?_)
        by_cases hk : k1 = k2
        · subst hk
          rw [decide_eq_true rfl]
          simp only [Bool.not_true, Bool.false_eq_true, if_false]
          refine wpAny_pure ⟨rfl, rfl, x'', y'', xs'', ys'', rfl, hx'', hy'', ?_, by simpa using hlen⟩
          rw [← hdec]
          by_cases hxy : x'' = y''
          · simp [hxy]
          · simp [hxy]
        · rw [decide_eq_false hk]
          simp only [Bool.not_false, if_true]
          have hf : decide (x = y) = false := by rw [← hdec]; simp [hk]
          rw [hf] at h
          exact wpAny_bind (wpAny_pure (wpAny_pure (wpAny_pure h)))
  · rintro ⟨r1, r2⟩ s' ⟨hr, rfl, x', y', xs', ys', hz, hx', hy', hdec, hlen⟩
    simp only at hr
    subst hr
    refine wpAny_pure ?_
    have hfin : (xs.size == ys.size) = decide (x = y) := by
      rw [← hdec, ← hlen]
      cases hx' with
      | nil =>
        cases hy' with
        | nil => simp
        | cons _ _ => simp
      | cons _ _ =>
        cases hy' with
        | nil => simp
        | cons _ _ => simp at hz
    show P (.done (.ret (.bool (xs.size == ys.size)))) s'
    rw [hfin]; exact h
end
/-- a tuple whose items are read by R -/
def TupOf {α : Type} (R : α → Value → Prop) (h : Heap) (x : List α) (v : Value) : Prop := ∃ a xs, v = .ref a ∧ IsTup h a xs ∧ Items2 R x xs.toList
theorem lt_tup {A : Around} {s : Shared} {α : Type} [DecidableEq α] {R : α → Value → Prop} {lt : α → α → Bool} {x y : List α} {u v : Value} (hu : A.units < cLine) (hx : TupOf R s.heap x u) (hy : TupOf R s.heap y v)
    (H : ∀ p u q v, R p u → R q v → EqAt A.in1 s u v (decide (p = q)) ∧ LtAt A.in1 s u v (lt p q)) : LtAt A s u v (lexB lt x y) := by
  obtain ⟨a, xs, rfl, ⟨oa, ha, ca, na, da⟩, ia⟩ := hx
  obtain ⟨b, ys, rfl, ⟨ob, hb, cb, nb, db⟩, ib⟩ := hy
  intro prog w E Q h
  exact wpAny_richCompare_same_room (op := .Lt) ⟨oa, ha, ca⟩ ⟨ob, hb, cb⟩ F.slot_tuple_lt
    (wpAny_call_entry F.slot_tuple_lt ⟨oa, ha, ca⟩ F.entry_tuple_lt (lt_tree ha da hb db ⟨ob, hb, cb⟩ ia ib H ⟨_, rfl, (fun e => nomatch e), h⟩) (F.args_tuple_lt_2 _ _)) hu
theorem eq_tup {A : Around} {s : Shared} {α : Type} [DecidableEq α] {R : α → Value → Prop} {x y : List α} {u v : Value} (hu : A.units < cLine) (hx : TupOf R s.heap x u) (hy : TupOf R s.heap y v)
    (H : ∀ p u q v, R p u → R q v → EqAt A.in1 s u v (decide (p = q))) : RcAt A s u v (decide (x = y)) := by
  obtain ⟨a, xs, rfl, ⟨oa, ha, ca, na, da⟩, ia⟩ := hx
  obtain ⟨b, ys, rfl, ⟨ob, hb, cb, nb, db⟩, ib⟩ := hy
  intro prog w E Q h
  exact wpAny_richCompare_same_room (op := .Eq) ⟨oa, ha, ca⟩ ⟨ob, hb, cb⟩ F.slot_tuple_eq
    (wpAny_call_entry F.slot_tuple_eq ⟨oa, ha, ca⟩ F.entry_tuple_eq (eq_tree ha da hb db ⟨ob, hb, cb⟩ ia ib H ⟨_, rfl, (fun e => nomatch e), h⟩) (F.args_tuple_eq_2 _ _)) hu
theorem Items2.inj {α : Type} {R : α → Value → Prop} (hR : ∀ p q v, R p v → R q v → p = q) {x y : List α} {vs : List Value} (hx : Items2 R x vs) (hy : Items2 R y vs) : x = y := by
  induction hx generalizing y with
  | nil => cases hy; rfl
  | cons h1 _ ih =>
    cases hy with
    | cons h2 t2 => rw [hR _ _ _ h1 h2, ih t2]
theorem TupOf.inj {α : Type} {R : α → Value → Prop} (hR : ∀ p q v, R p v → R q v → p = q) {h : Heap} {x y : List α} {v : Value} (hx : TupOf R h x v) (hy : TupOf R h y v) : x = y := by
  obtain ⟨a, xs, rfl, ⟨oa, ha, ca, na, da⟩, ia⟩ := hx
  obtain ⟨b, ys, hb', ⟨ob, hb, cb, nb, db⟩, ib⟩ := hy
  cases hb'
  rw [ha] at hb; cases hb
  rw [da] at db; cases db
  exact ia.inj hR ib
theorem eqB_tup {A : Around} {s : Shared} {α : Type} [DecidableEq α] {R : α → Value → Prop} {x y : List α} {u v : Value} (hR : ∀ p q v, R p v → R q v → p = q) (hu : A.units < cLine) (hx : TupOf R s.heap x u) (hy : TupOf R s.heap y v)
    (H : ∀ p u q v, R p u → R q v → EqAt A.in1 s u v (decide (p = q))) : EqAt A s u v (decide (x = y)) := by
  have key := eq_tup hu hx hy H
  obtain ⟨a, xs, rfl, Ta, ia⟩ := id hx
  obtain ⟨b, ys, rfl, Tb, ib⟩ := id hy
  intro prog w E Q h
  unfold eqBool
  try with_reducible refine wpAny_holding ?_
  show wpAny _ _ (if (Value.ref a == Value.ref b) = true then _ else _) Q E s
  by_cases hab : (Value.ref a == Value.ref b) = true
  · rw [if_pos hab]
    have e : a = b := by have := eq_of_beq hab; injection this
    subst e
    obtain rfl := hx.inj hR hy
    exact wpAny_bind (wpAny_rule (wpAny_pure (by simpa using h)))
  · rw [if_neg hab]
    exact wpAny_bind (key _ _ _ _ (wpAny_truthy_bool h))
def IntOf (i : Int) (v : Value) : Prop := ∃ t, v = .int i t
theorem eqB_int (A : Around) (s : Shared) : ∀ p u q v, IntOf p u → IntOf q v → EqAt A s u v (decide (p = q)) := by
  rintro p u q v ⟨t, rfl⟩ ⟨t', rfl⟩ prog w E Q h
  refine wpAny_eqBool_int ?_
  by_cases e : p = q
  · subst e; simpa using h
  · rw [show (p == q) = false from beq_false_of_ne e]; simpa [e] using h
theorem lt_int (A : Around) (s : Shared) : ∀ p u q v, IntOf p u → IntOf q v → LtAt A s u v (decide (p < q)) := by
  rintro p u q v ⟨t, rfl⟩ ⟨t', rfl⟩ prog w E Q h
  exact wpAny_lt_int h
theorem rc_int (A : Around) (s : Shared) : ∀ p u q v, IntOf p u → IntOf q v → RcAt A s u v (decide (p = q)) := by
  rintro p u q v ⟨t, rfl⟩ ⟨t', rfl⟩ prog w E Q h
  refine wpAny_eq_int ?_
  by_cases e : p = q
  · subst e; simpa using h
  · rw [show (p == q) = false from beq_false_of_ne e]; simpa [e] using h
theorem IntOf.inj : ∀ p q v, IntOf p v → IntOf q v → p = q := by
  rintro p q v ⟨t, rfl⟩ ⟨t', e⟩
  cases e; rfl
/-- a rank: a tuple of tuples of ints -/
def RankOf (h : Heap) : List (List Int) → Value → Prop := TupOf (TupOf IntOf h) h
def ltI (a b : Int) : Bool := decide (a < b)
theorem rank_rc {A : Around} {s : Shared} {x y : List (List Int)} {u v : Value} (hu : A.units + 2 < cLine) (hx : RankOf s.heap x u) (hy : RankOf s.heap y v) : RcAt A s u v (decide (x = y)) :=
  eq_tup (by omega) hx hy fun p u q v h1 h2 => eqB_tup IntOf.inj (by show A.units + 1 < _; omega) h1 h2 (eqB_int _ _)
theorem rank_lt {A : Around} {s : Shared} {x y : List (List Int)} {u v : Value} (hu : A.units + 2 < cLine) (hx : RankOf s.heap x u) (hy : RankOf s.heap y v) : LtAt A s u v (lexB (lexB ltI) x y) :=
  lt_tup (by omega) hx hy fun p u q v h1 h2 => ⟨eqB_tup IntOf.inj (by show A.units + 1 < _; omega) h1 h2 (eqB_int _ _),
    lt_tup (by show A.units + 1 < _; omega) h1 h2 fun p u q v h1 h2 => ⟨eqB_int _ _ p u q v h1 h2, lt_int _ _ p u q v h1 h2⟩⟩
end TL
end
-- R1
section
namespace RN
open PySem.NumText
/-- a sign that is a digit of the base -/
def Dig (b c : Nat) : Prop := ∃ d, digit? c = some d ∧ d < b
def dg (c : Nat) : Nat := (digit? c).getD 0
def dval (b : Nat) (cs : List Nat) : Nat := cs.foldl (fun acc c => acc * b + dg c) 0
theorem Dig.range {b c : Nat} (h : Dig b c) : (48 ≤ c ∧ c ≤ 57) ∨ (97 ≤ c ∧ c ≤ 122) ∨ (65 ≤ c ∧ c ≤ 90) := by
  obtain ⟨d, h, _⟩ := h
  unfold digit? at h
  repeat' split at h
  all_goals first | (rename_i q; simp only [Bool.and_eq_true, decide_eq_true_eq] at q; omega) | cases h
theorem Dig.noblank {b c : Nat} (h : Dig b c) : blank c = false := by
  have := h.range
  unfold blank
  simp only [Bool.or_eq_false_iff, beq_eq_false_iff_ne, Bool.and_eq_false_iff, decide_eq_false_iff_not]
  omega
theorem Dig.step {b c : Nat} (h : Dig b c) (p : Array Nat × Bool) : step b p c = some (p.1.push (dg c), true) := by
  have r := h.range
  obtain ⟨d, h, hd⟩ := h
  unfold NumText.step dg
  have : (c == 95) = false := beq_eq_false_iff_ne.mpr (by omega)
  simp only [this, h, hd, Bool.false_eq_true, if_false, if_true, Option.getD_some]
theorem fold_digs {b : Nat} : ∀ (cs : List Nat), (∀ c ∈ cs, Dig b c) → cs ≠ [] → ∀ p : Array Nat × Bool, cs.foldlM (step b) p = some (p.1 ++ (cs.map dg).toArray, true)
  | [], _, h, _ => absurd rfl h
  | [c], h, _, p => by
    rw [List.foldlM_cons, (h c (.head _)).step]
    show some _ = _
    simp
  | c :: d :: r, h, _, p => by
    rw [List.foldlM_cons, (h c (.head _)).step]
    show (d :: r).foldlM (NumText.step b) _ = _
    rw [fold_digs (d :: r) (fun x hx => h x (.tail _ hx)) (by simp)]
    simp
theorem digits_digs {b : Nat} {cs : List Nat} (h : ∀ c ∈ cs, Dig b c) (hn : cs ≠ []) : digits? b cs = some (cs.map dg).toArray := by
  unfold digits?
  rw [fold_digs cs h hn]
  simp
theorem drop_digs {b : Nat} {cs : List Nat} (h : ∀ c ∈ cs, Dig b c) : cs.dropWhile blank = cs := by
  cases cs with
  | nil => rfl
  | cons c r => rw [List.dropWhile_cons, (h c (.head _)).noblank]; rfl
theorem sign_digs {b : Nat} {cs : List Nat} (h : ∀ c ∈ cs, Dig b c) : sign cs = (false, cs) := by
  cases cs with
  | nil => rfl
  | cons c r =>
    have := (h c (.head _)).range
    unfold sign
    split
    · rename_i e; cases e; omega
    · rename_i e; cases e; omega
    · rfl
theorem read_digs {b : Nat} (hb : 2 ≤ b) (h2 : ([2, 4, 8, 16, 32] : List Nat).contains b = true) {cs : List Nat} (h : ∀ c ∈ cs, Dig b c) (hn : cs ≠ []) (hp : prefix? cs = none) :
    (int_private% "readNumeral") 0 b cs = (int_private% "Numeral.value") (dval b cs : Nat) := by
  refine (readNumeral_eq 0 b cs).trans ?_
  rw [drop_digs h, sign_digs h]
  have hbd : based b cs = (b, false, cs) := by
    unfold based
    rw [hp]
    have : (b == 0) = false := beq_eq_false_iff_ne.mpr (by omega)
    simp only [this, Bool.false_eq_true, if_false]
  rw [hbd]
  dsimp only
  rw [drop_digs (fun c hc => h c (List.mem_reverse.mp hc)), List.reverse_reverse, digits_digs h hn]
  have ed : (cs.map dg).toArray.foldl (fun acc d => acc * b + d) 0 = dval b cs := by
    unfold dval
    rw [List.foldl_toArray, List.foldl_map]
  unfold judge
  have hb10 : (b == 10) = false := by
    cases e : b == 10 with
    | false => rfl
    | true => rw [beq_iff_eq.mp e] at h2; exact absurd h2 (by decide)
  simp only [h2, hb10, Bool.not_true, Bool.false_and, Bool.false_eq_true, if_false, ed]
theorem nozero {b : Nat} {cs : List Nat} (h : ∀ c ∈ cs, Dig b c) : cs.takeWhile (· != 0) = cs := by
  induction cs with
  | nil => rfl
  | cons c r ih =>
    have := (h c (.head _)).range
    rw [List.takeWhile_cons, ih fun x hx => h x (.tail _ hx)]
    have e : (c != 0) = true := by simp; omega
    rw [e]; rfl
theorem ascii {b : Nat} {cs : List Nat} (h : ∀ c ∈ cs, Dig b c) : ∀ c ∈ cs, c < 128 := fun c hc => by
  have := (h c hc).range; omega

/-- int_of text's heart, any base -/
theorem wp_text {M : Model} {A : Around} {E : Value → Shared → Prop} {s : Shared} {Q : Value → Shared → Prop} {v : Value} {text : List Nat} {n : Int} {b : Nat}
    (hs : (text.takeWhile (· != 0)).length ≤ 640) (hr : (int_private% "readNumeral") 0 b (text.takeWhile (· != 0)) = (int_private% "Numeral.value") n)
    (ha : ((text.takeWhile (· != 0)).length == text.length) = true) (h : Q (.int n s.toks) { s with toks := s.toks + 1 }) :
    wpAny M A ((int_private% "intFromText") v text b) Q E s := by
  obtain ⟨hp, g, d, tk, os⟩ := s
  repeat (any_goals (first
    | assumption
    | (with_reducible refine wpAny_ite_true (decide_eq_true hs) ?_)
    | (with_reducible refine wpAny_ite_true (decide_eq_true ha) ?_)
    | wp_step))
  all_goals (try rw [hr])
  all_goals (try dsimp only)
  repeat (any_goals (first
    | assumption
    | (with_reducible refine wpAny_ite_true (decide_eq_true hs) ?_)
    | (with_reducible refine wpAny_ite_true (decide_eq_true ha) ?_)
    | wp_step))
theorem typeCall_int_2 (a b : Value) : checkTypeCall "int" ⟨[a, b], []⟩ = pure () := by kernel_rfl
theorem newCall_int_2 (a b : Value) : checkBuiltinCall "int.__new__" ⟨[.type "int", a, b], []⟩ = pure () := by kernel_rfl
theorem args_init_3 (obj a b : Value) : argsOk "object.__init__" ⟨[obj, a, b], []⟩ := by unfold argsOk; kernel_rfl
structure Hid (p : Prop) : Prop where
  out : p
theorem texts {b : Nat} {cs : List Nat} (hb : b = 2 ∨ b = 16) (h : ∀ c ∈ cs, Dig b c) (hn : cs ≠ []) (hp : prefix? cs = none) (hl : cs.length ≤ 640) :
    (cs.takeWhile (· != 0)).length ≤ 640 ∧ (int_private% "readNumeral") 0 b (cs.takeWhile (· != 0)) = (int_private% "Numeral.value") (dval b cs : Nat) ∧ ((cs.takeWhile (· != 0)).length == cs.length) = true := by
  rw [nozero h]
  refine ⟨hl, read_digs ?_ ?_ h hn hp, beq_self_eq_true _⟩
  · rcases hb with rfl | rfl <;> decide
  · rcases hb with rfl | rfl <;> decide
/-- int(text, 2), int(text, 16) of a str -/
theorem gives_str2 {x : PySem.Str} {u v : Tok} (hx : x.cps.all (fun c => decide (c < 128)) = true) {n : Int}
    (hk : (x.cps.toList.takeWhile (· != 0)).length ≤ 640 ∧ (int_private% "readNumeral") 0 2 (x.cps.toList.takeWhile (· != 0)) = (int_private% "Numeral.value") n ∧ ((x.cps.toList.takeWhile (· != 0)).length == x.cps.toList.length) = true) :
    Gives (Builtin.«int.__new__» ⟨[.type "int", .str x u, .int 2 v], []⟩) (.int n) :=
  .of_wp fun M A E s Q hq => by
    obtain ⟨hp', g, d, tk, os⟩ := s
    have f1 := F.conv_sub_int
    have f2 := F.madeHere_int
    replace hk := Hid.mk hk
    replace hx := Hid.mk hx
    iterate 40 (first | assumption | wp_step)
    rw [if_pos hx.out, show Int.toNat 2 = 2 from rfl]
    with_reducible refine wp_text hk.out.1 hk.out.2.1 hk.out.2.2 ?_
    repeat (any_goals (first | assumption | wp_step))
    exact ⟨_, rfl, hq⟩
theorem gives_bytes16 {x : Array UInt8} {u v : Tok} {n : Int}
    (hk : ((x.toList.map (·.toNat)).takeWhile (· != 0)).length ≤ 640 ∧ (int_private% "readNumeral") 0 16 ((x.toList.map (·.toNat)).takeWhile (· != 0)) = (int_private% "Numeral.value") n ∧ (((x.toList.map (·.toNat)).takeWhile (· != 0)).length == (x.toList.map (·.toNat)).length) = true) :
    Gives (Builtin.«int.__new__» ⟨[.type "int", .bytes x u, .int 16 v], []⟩) (.int n) :=
  .of_wp fun M A E s Q hq => by
    obtain ⟨hp', g, d, tk, os⟩ := s
    have f1 := F.conv_sub_int
    have f2 := F.madeHere_int
    replace hk := Hid.mk hk
    iterate 47 (first | assumption | wp_step)
    rw [show Int.toNat 16 = 16 from rfl]
    with_reducible refine wp_text hk.out.1 hk.out.2.1 hk.out.2.2 ?_
    repeat (any_goals (first | assumption | wp_step))
    exact ⟨_, rfl, hq⟩
section
variable {prog : Program} {w : World} {A : Around} {E : Value → Shared → Prop} {s : Shared} {Q : Value → Shared → Prop}
/-- int(bits, 2) -/
theorem int_str2 {x : PySem.Str} {t u : Tok} (h : ∀ c ∈ x.cps.toList, Dig 2 c) (hn : x.cps.toList ≠ []) (hp : prefix? x.cps.toList = none) (hl : x.length ≤ 640)
    (hq : Q (.int (dval 2 x.cps.toList : Nat) s.toks) { s with toks := s.toks + 1 }) : wpAny (model prog w) A (call (.type "int") [.str x t, .int 2 u]) Q E s := by
  have hall : x.cps.all (· < 128) = true := by
    rw [Array.all_eq_true_iff_forall_mem]
    intro c hc
    exact decide_eq_true (ascii h c (Array.mem_toList_iff.mpr hc))
  exact callType_new F.called_int F.newNe_int (typeCall_int_2 _ _) (newCall_int_2 _ _) (fun obj => args_init_3 obj _ _) F.entry_int_new
    (gives_str2 hall (texts (.inl rfl) h hn hp (by rw [Array.length_toList]; exact hl))).meets (show (Made.int _).post _ s from ⟨rfl, hq⟩)
/-- int(octets, 16) -/
theorem int_bytes16 {x : Array UInt8} {t u : Tok} (h : ∀ c ∈ x.toList.map (·.toNat), Dig 16 c) (hn : x.toList ≠ []) (hp : prefix? (x.toList.map (·.toNat)) = none) (hl : x.size ≤ 640)
    (hq : Q (.int (dval 16 (x.toList.map (·.toNat)) : Nat) s.toks) { s with toks := s.toks + 1 }) : wpAny (model prog w) A (call (.type "int") [.bytes x t, .int 16 u]) Q E s := by
  exact callType_new F.called_int F.newNe_int (typeCall_int_2 _ _) (newCall_int_2 _ _) (fun obj => args_init_3 obj _ _) F.entry_int_new
    (gives_bytes16 (texts (.inr rfl) h (by simpa using hn) hp (by rw [List.length_map, Array.length_toList]; exact hl))).meets (show (Made.int _).post _ s from ⟨rfl, hq⟩)
end
end RN

namespace RB
open Builtin
def hexArr (b : Array UInt8) : Array Nat := b.toList.zipIdx.foldl (fun (out : Array Nat) (p : UInt8 × Nat) => (out.push (Bytes.hexDigit (p.1.toNat / 16))).push (Bytes.hexDigit (p.1.toNat % 16))) #[]
seal retStr in
theorem hex_tree (b : Array UInt8) (t : Tok) : «bytes.hex» ⟨[.bytes b t], []⟩ = retStr ⟨hexArr b⟩ := rfl
theorem gives_hex (b : Array UInt8) (t : Tok) : Gives («bytes.hex» ⟨[.bytes b t], []⟩) (.str ⟨hexArr b⟩) := by rw [hex_tree]; exact gives_retStr _
/-- the hex signs of octets -/
def hexL : List UInt8 → List Nat
  | [] => []
  | c :: r => Bytes.hexDigit (c.toNat / 16) :: Bytes.hexDigit (c.toNat % 16) :: hexL r
theorem hexArr_eq (b : Array UInt8) : hexArr b = (hexL b.toList).toArray := by
  have key : ∀ (l : List UInt8) (k : Nat) (a : Array Nat), (l.zipIdx k).foldl (fun (out : Array Nat) (p : UInt8 × Nat) => (out.push (Bytes.hexDigit (p.1.toNat / 16))).push (Bytes.hexDigit (p.1.toNat % 16))) a = a ++ (hexL l).toArray := by
    intro l
    induction l with
    | nil => intro k a; simp [hexL]
    | cons c r ih =>
      intro k a
      rw [List.zipIdx_cons, List.foldl_cons, ih]
      simp [hexL]
  unfold hexArr
  rw [key]
  simp
theorem hexL_length : ∀ l : List UInt8, (hexL l).length = 2 * l.length
  | [] => rfl
  | _ :: r => by simp only [hexL, List.length_cons, hexL_length r]; omega
section
variable {prog : Program} {w : World} {M : Model} {A : Around} {E : Value → Shared → Prop} {s : Shared}
theorem type_bytes {b : Array UInt8} {t : Tok} {Q : Value → Shared → Prop} (hq : Q (.type "bytes") s) : wpAny (model prog w) A (call (.type "type") [.bytes b t]) Q E s :=
  call_type_of (Tx := "bytes") rfl (by decide +kernel) hq
theorem meth_hex {b : Array UInt8} {t : Tok} {pl : Sem Bool} {Q : Value × List Value → Shared → Prop} (h : Q (.builtin "bytes.hex", [.bytes b t]) s) :
    wpAny M A (getMethod (.bytes b t) (PySem.Str.ofString "hex") pl) Q E s :=
  getMethod_value (T := "bytes") (name := PySem.Str.ofString "hex") (ga := "bytes.__getattribute__") (id := "bytes.hex") rfl (by intro _ x; cases x) (by rw [typeLookup_type, builtinLookup_eq_fast]; kernel_rfl) (by decide +kernel) (by rw [typeLookup_type, builtinLookup_eq_fast]; kernel_rfl) FB.slot_bytes_hex.lookup FB.type_bytes_hex h
theorem call_hex {b : Array UInt8} {t : Tok} {Q : Value → Shared → Prop} (hl : b.size ≤ 1000) (h : Q (.str ⟨(hexL b.toList).toArray⟩ s.toks) { s with toks := s.toks + 1 }) :
    wpAny (model prog w) A (call (.builtin "bytes.hex") [.bytes b t]) Q E s := by
  refine call_gives FB.slot_bytes_hex rfl FB.entry_bytes_hex (FB.args_bytes_hex_1 _) (gives_hex b t) ?_
  rw [hexArr_eq]
  refine ⟨?_, h⟩
  show (hexL b.toList).toArray.size ≤ sizeLine
  rw [List.size_toArray, hexL_length, Array.length_toList, sizeLine_eq]
  omega
end
end RB
end
local macro_rules | `(tactic| walk_at "call type:type") => `(tactic| k_dflt (refine RB.type_bytes ?_))
local macro_rules | `(tactic| walk_at "getMethod bytes") => `(tactic| k_dflt (refine RB.meth_hex ?_))
local macro_rules | `(tactic| walk_at "call builtin:bytes.hex") => `(tactic| k_dflt ((refine RB.call_hex ?hz ?_; (case hz => walk_at "mine le"))))
-- R2
section
namespace RE
open Builtin Builtin._codecs
theorem two_turns {β : Type} (f : Nat → β → Sem (ForInStep β)) (l : List Nat) (b0 b1 : β) (h1 : ∀ a, f a b0 = pure (.yield b1)) (h2 : ∀ a, f a b1 = pure (.done b1)) (hl : l ≠ []) : forIn l b0 f = pure b1 := by
  cases l with
  | nil => exact absurd rfl hl
  | cons a r =>
    rw [List.forIn_cons, h1 a]
    show forIn r b1 f = pure b1
    cases r with
    | nil => rfl
    | cons a' r' => rw [List.forIn_cons, h2 a']; rfl
theorem find_none {l : Array Nat} {p : Nat → Bool} (h : ∀ y ∈ l.toList, p y = false) : Array.findIdx? p l = none := by
  rw [Array.findIdx?_eq_none_iff]
  intro y hy
  exact h y (Array.mem_toList_iff.mpr hy)
theorem narrow_eq (id : String) (c : TextCodec) (self : Value) (x : PySem.Str) (hb : ∀ y ∈ x.cps.toList, c.bad y = false) (hs : (x.cps.foldl (fun acc y => acc ++ (c.bytesOf y).toArray) #[]).size ≤ sizeLine) :
    encodeNarrow id c none self x = pure (x.cps.foldl (fun acc y => acc ++ (c.bytesOf y).toArray) #[]) := by
  unfold encodeNarrow
  simp only [Std.Legacy.Range.forIn_eq_forIn_range']
  by_cases h0 : x.cps.size = 0
  · have e : [:x.length].size = 0 := by show (x.cps.size - 0 + 1 - 1) / 1 = 0; rw [h0]
    have e2 : x.cps = #[] := Array.eq_empty_of_size_eq_zero h0
    simp only [e, List.range', List.forIn_nil, e2]
    rfl
  · have hne : List.range' 0 [:x.length].size ≠ [] := by
      have e : [:x.length].size = x.cps.size := by show (x.cps.size - 0 + 1 - 1) / 1 = x.cps.size; omega
      rw [e]
      intro h
      have := congrArg List.length h
      rw [List.length_range'] at this
      exact h0 this
    rw [two_turns (β := Nat × Array UInt8 × Faults) _ _ (0, #[], ({} : Faults)) (x.cps.size, x.cps.foldl (fun acc y => acc ++ (c.bytesOf y).toArray) #[], ({} : Faults)) ?_ ?_ hne]
    · rfl
    · intro a
      have hx : x.cps[0]? = some (x.cps[0]'(by omega)) := Array.getElem?_eq_getElem (by omega)
      have hx0 : c.bad (x.cps[0]'(by omega)) = false := hb _ (by simp)
      have hf : Array.findIdx? c.bad x.cps = none := find_none hb
      simp only [Array.size_empty, Nat.not_lt_zero, gt_iff_lt, if_false, hx, hx0, Bool.not_false, if_true, hf, Option.getD_none, Array.extract_size, Nat.zero_add]
    · intro a
      have hx : x.cps[x.cps.size]? = none := Array.getElem?_eq_none (Nat.le_refl _)
      simp only [gt_iff_lt, Nat.not_lt.mpr hs, if_false, hx]
/-- what utf-8's encoder makes of the signs -/
def utf8L (l : List Nat) : List UInt8 := l.flatMap PySem.Str.utf8Of
theorem fold_utf8 (x : PySem.Str) : x.cps.foldl (fun acc y => acc ++ (utf8Codec.bytesOf y).toArray) #[] = (utf8L x.cps.toList).toArray := by
  rw [← Array.foldl_toList]
  have key : ∀ (l : List Nat) (a : Array UInt8), l.foldl (fun acc y => acc ++ (utf8Codec.bytesOf y).toArray) a = a ++ (utf8L l).toArray := by
    intro l
    induction l with
    | nil => intro a; simp [utf8L]
    | cons c r ih =>
      intro a
      rw [List.foldl_cons, ih]
      show a ++ (PySem.Str.utf8Of c).toArray ++ _ = _
      simp [utf8L]
  rw [key]; simp
def asciiL (l : List Nat) : List UInt8 := l.map (·.toUInt8)
theorem fold_ascii (x : PySem.Str) : x.cps.foldl (fun acc y => acc ++ (asciiCodec.bytesOf y).toArray) #[] = (asciiL x.cps.toList).toArray := by
  rw [← Array.foldl_toList]
  have key : ∀ (l : List Nat) (a : Array UInt8), l.foldl (fun acc y => acc ++ (asciiCodec.bytesOf y).toArray) a = a ++ (asciiL l).toArray := by
    intro l
    induction l with
    | nil => intro a; simp [asciiL]
    | cons c r ih =>
      intro a
      rw [List.foldl_cons, ih]
      show a ++ [c.toUInt8].toArray ++ _ = _
      simp [asciiL]
  rw [key]; simp
section
variable {prog : Program} {w : World} {M : Model} {A : Around} {E : Value → Shared → Prop} {s : Shared} {x : PySem.Str} {t u : Tok}
theorem meth {pl : Sem Bool} {Q : Value × List Value → Shared → Prop} (h : Q (.builtin "str.encode", [.str x t]) s) : wpAny M A (getMethod (.str x t) (PySem.Str.ofString "encode") pl) Q E s :=
  GM.of (.str x t) (typeIs_str _ _ _) F.slot_str_encode F.type_str_encode GM.noRef h
theorem args2 (a b : Value) : argsOk "str.encode" ⟨[a, b], []⟩ := by unfold argsOk; kernel_rfl
theorem gives_ascii (hb : ∀ y ∈ x.cps.toList, y < 128) (hl : x.length ≤ 1000) : Gives («str.encode» ⟨[.str x t, .str (PySem.Str.ofString "ascii") u], []⟩) (.bytes (asciiL x.cps.toList).toArray) := by
  have e : encodeNarrow "str.encode" asciiCodec none (.str x t) x = pure (asciiL x.cps.toList).toArray := by
    rw [narrow_eq, fold_ascii]
    · intro y hy; exact decide_eq_false (Nat.not_le.mpr (hb y hy))
    · rw [fold_ascii, List.size_toArray]
      show (List.map _ _).length ≤ _
      rw [List.length_map, Array.length_toList, sizeLine_eq]
      exact Nat.le_trans hl (by decide)
  have e2 : «str.encode» ⟨[.str x t, .str (PySem.Str.ofString "ascii") u], []⟩ = (encodeNarrow "str.encode" asciiCodec none (.str x t) x >>= fun b => mkBytes b) >>= fun v => ret v := by kernel_rfl
  rw [e2, e]
  exact .of_eq rfl
theorem gives_utf8 (hb : ∀ y ∈ x.cps.toList, PySem.Str.isSurrogate y = false) (hl : (utf8L x.cps.toList).length ≤ 1000) : Gives («str.encode» ⟨[.str x t, .str (PySem.Str.ofString "utf-8") u], []⟩) (.bytes (utf8L x.cps.toList).toArray) := by
  have e : encodeNarrow "str.encode" utf8Codec none (.str x t) x = pure (utf8L x.cps.toList).toArray := by
    rw [narrow_eq, fold_utf8]
    · exact hb
    · rw [fold_utf8, List.size_toArray, sizeLine_eq]
      exact Nat.le_trans hl (by decide)
  have e2 : «str.encode» ⟨[.str x t, .str (PySem.Str.ofString "utf-8") u], []⟩ = (encodeNarrow "str.encode" utf8Codec none (.str x t) x >>= fun b => mkBytes b) >>= fun v => ret v := by kernel_rfl
  rw [e2, e]
  exact .of_eq rfl
theorem call_ascii {Q : Value → Shared → Prop} (hb : ∀ y ∈ x.cps.toList, y < 128) (hl : x.length ≤ 1000) (h : Q (.bytes (asciiL x.cps.toList).toArray s.toks) { s with toks := s.toks + 1 }) :
    wpAny (model prog w) A (call (.builtin "str.encode") [.str x t, .str (PySem.Str.ofString "ascii") u]) Q E s :=
  call_gives F.slot_str_encode (typeIs_str _ _ _) F.entry_str_encode (args2 _ _) (gives_ascii hb hl) ⟨by
    show (asciiL _).toArray.size ≤ sizeLine
    rw [List.size_toArray]
    show (List.map _ _).length ≤ _
    rw [List.length_map, Array.length_toList, sizeLine_eq]
    exact Nat.le_trans hl (by decide), h⟩
theorem call_utf8 {Q : Value → Shared → Prop} (hb : ∀ y ∈ x.cps.toList, PySem.Str.isSurrogate y = false) (hl : (utf8L x.cps.toList).length ≤ 1000) (h : Q (.bytes (utf8L x.cps.toList).toArray s.toks) { s with toks := s.toks + 1 }) :
    wpAny (model prog w) A (call (.builtin "str.encode") [.str x t, .str (PySem.Str.ofString "utf-8") u]) Q E s :=
  call_gives F.slot_str_encode (typeIs_str _ _ _) F.entry_str_encode (args2 _ _) (gives_utf8 hb hl) ⟨by
    show (utf8L _).toArray.size ≤ sizeLine
    rw [List.size_toArray, sizeLine_eq]
    exact Nat.le_trans hl (by decide), h⟩
end
end RE
end
local macro_rules | `(tactic| walk_at "getMethod str") => `(tactic| k_dflt (with_reducible refine RE.meth ?_))
local macro_rules | `(tactic| walk_at "call builtin:str.encode") => `(tactic| k_dflt ((refine RE.call_ascii ?hb ?hz ?_; (case hb => assumption); (case hz => walk_at "mine le"))))
-- L1
section
section
variable {prog : Program} {w : World} {A : Around} {E : Value → Shared → Prop} {s : Shared} {env : Env} {h₀ : Heap} {m : PySem.Str → Option Value} {news : List (Addr × Obj)}

/-- where a loop's turn ends: the frame, the ledger, the word J -/
def Turn (h₀ : Heap) (L : Addr) (J : (PySem.Str → Option Value) → List (Addr × Obj) → Prop) (s s₃ : Shared) : Prop :=
  ∃ h' tk m' news', s₃ = { s with heap := h', toks := tk } ∧ Fr h₀ L h' m' ∧ News h₀ L h' news' ∧ J m' news'
def TurnP (h₀ : Heap) (L : Addr) (J : (PySem.Str → Option Value) → List (Addr × Obj) → Prop) (s : Shared) (Q : Flow → Shared → Prop) (f : Flow) (s₃ : Shared) : Prop :=
  match f with
  | .next => Turn h₀ L J s s₃
  | .cont => Turn h₀ L J s s₃
  | .brk => Q .next s₃
  | .ret v => Q (.ret v) s₃
theorem Turn.mk' {L : Addr} {J : (PySem.Str → Option Value) → List (Addr × Obj) → Prop} {h' : Heap} {tk : Nat} {m' : PySem.Str → Option Value} {news' : List (Addr × Obj)} (F : Fr h₀ L h' m') (N : News h₀ L h' news') (hJ : J m' news') :
    Turn h₀ L J s { s with heap := h', toks := tk } := ⟨h', tk, m', news', rfl, F, N, hJ⟩

theorem while_J {L : Addr} (hL : env.locals = L) {test : Expr} {body : List Stmt} {pos : Pos} {Q : Flow → Shared → Prop} (J : Nat → (PySem.Str → Option Value) → List (Addr × Obj) → Prop) (n : Nat)
    (F : Fr h₀ L s.heap m) (N : News h₀ L s.heap news) (h0 : J n m news)
    (turn : ∀ k m news h tk, J k m news → Fr h₀ L h m → News h₀ L h news →
      wpAny (model prog w) A (isTrue test env (eval test env)) (fun b s₂ =>
        if b = true then wpAny (model prog w) A (execs body env) (TurnP h₀ L (fun m' news' => ∃ k', k' < k ∧ J k' m' news') s Q) (fun _ _ => False) s₂ else Q .next s₂) (fun _ _ => False) { s with heap := h, toks := tk }) :
    wpAny (model prog w) A (exec (.While test body [] pos) env) Q E s := by
  subst hL
  refine wpAny_While (codeAny_whileLoop (fun k s' => ∃ h tk m news, s' = { s with heap := h, toks := tk } ∧ J k m news ∧ Fr h₀ env.locals h m ∧ News h₀ env.locals h news) ?_ n ⟨s.heap, s.toks, m, news, rfl, h0, F, N⟩)
  rintro k s' ⟨h, tk, m', news', rfl, hJ, F', N'⟩
  refine wpAny_mono (turn k m' news' h tk hJ F' N') (fun b s₂ h₂ => ?_) fun _ _ x => x.elim
  cases b with
  | false =>
    simp only [Bool.false_eq_true, if_false] at h₂ ⊢
    exact wpAny_execs_nil h₂
  | true =>
    simp only [if_true] at h₂ ⊢
    refine wpAny_mono h₂ (fun f s₃ h₃ => ?_) fun _ _ x => x.elim
    have fin : Turn h₀ env.locals (fun m' news' => ∃ k', k' < k ∧ J k' m' news') s s₃ → ∃ k', k' < k ∧ ∃ h tk m news, s₃ = { s with heap := h, toks := tk } ∧ J k' m news ∧ Fr h₀ env.locals h m ∧ News h₀ env.locals h news := by
      rintro ⟨h', tk', m₂, news₂, e, F₂, N₂, k', hk, hJ₂⟩
      exact ⟨k', hk, h', tk', m₂, news₂, e, hJ₂, F₂, N₂⟩
    cases f with
    | next => exact fin h₃
    | cont => exact fin h₃
    | brk => exact h₃
    | ret v => exact h₃

/-- an iterator's items, one a turn -/
theorem for_core {L : Addr} (hL : env.locals = L) {target : Expr} {body : List Stmt} {R : Result → Shared → Prop} {I : Addr} {fp : List Addr} {n : Nat} {P : Nat → Value → Prop} {St : Nat → Heap → Prop}
    (W : Walks prog w A I fp [I] n P St) (J : Nat → (PySem.Str → Option Value) → List (Addr × Obj) → Prop)
    (F : Fr h₀ L s.heap m) (N : News h₀ L s.heap news) (hst : St 0 s.heap) (hI : ∃ o, s.heap.get? I = some o) (hI0 : h₀.get? I = none) (hIL : L ≠ I) (hIn : ∀ p ∈ news, p.1 ≠ I)
    (hlive : ∀ i h, St i h → ∃ o, h.get? I = some o)
    (hfp : ∀ b ∈ fp, b ≠ I → (∃ o, h₀.get? b = some o) ∨ ∃ o, ∀ i m news, J i m news → (b, o) ∈ news)
    (hgo : ∀ i (s' : Shared) v (Q' : Unit → Shared → Prop), St i s'.heap → Q' () s' → wpAny (model prog w) A (letOwnedTupleGo target (.ref I) v) Q' (fun _ _ => False) s')
    (h0 : J 0 m news)
    (turn : ∀ i v m news h tk oI, i < n → P i v → J i m news → Fr h₀ L h m → News h₀ L h ((I, oI) :: news) → (∀ p ∈ news, p.1 ≠ I) →
      wpAny (model prog w) A (assign target env v) (fun _ s₂ => wpAny (model prog w) A (execs body env)
        (TurnP h₀ L (fun m' news' => ∃ nx, news' = (I, oI) :: nx ∧ (∀ p ∈ nx, p.1 ≠ I) ∧ J (i + 1) m' nx) s (fun f s₃ => R (.ok f) s₃)) (fun _ _ => False) s₂) (fun _ _ => False) { s with heap := h, toks := tk })
    (done : ∀ m news h tk, J n m news → Fr h₀ L h m → News h₀ L h news → R (.ok .next) { s with heap := h, toks := tk }) :
    codeAny (model prog w) A (.forLoop target (.ref I) body [] env) R s := by
  subst hL
  refine codeAny_forLoop_any
    (fun k s' => ∃ h' tk m' news' i, s' = { s with heap := h', toks := tk } ∧ St i h' ∧ Fr h₀ env.locals h' m' ∧ News h₀ env.locals h' news' ∧ (∀ p ∈ news', p.1 ≠ I) ∧ J i m' news' ∧ i ≤ n ∧ k = n + 1 - i) ?_ (n + 1)
    ⟨s.heap, s.toks, m, news, 0, rfl, hst, F, N, hIn, h0, Nat.zero_le _, rfl⟩
  rintro k s' ⟨h', tk, m', news', i, rfl, hst', F', N', hnI, hJ, hi, rfl⟩
  have next : ∀ h₁ : Heap, (∀ b o, b ∉ [I] → h'.get? b = some o → h₁.get? b = some o) → Fr h₀ env.locals h₁ m' ∧ News h₀ env.locals h₁ news' := fun h₁ hk₁ =>
    ⟨⟨F'.ns.at' fun o e => hk₁ _ o (fun q => hIL (List.mem_singleton.mp q)) e, fun b o e => hk₁ b o (fun q => by rw [List.mem_singleton.mp q, hI0] at e; cases e) (F'.keep b o e), F'.above⟩,
      fun p hp => ⟨hk₁ _ _ (fun q => hnI p hp (List.mem_singleton.mp q)) (N' p hp).1, (N' p hp).2⟩⟩
  by_cases hlt : i < n
  · refine W.item i _ _ _ hlt hst' fun v h₁ tk₁ hP hst₁ hk₁ => ?_
    obtain ⟨F₁, N₁⟩ := next h₁ hk₁
    obtain ⟨oI, hoI⟩ := hlive _ _ hst₁
    have N₁' : News h₀ env.locals h₁ ((I, oI) :: news') := fun p hp => by
      rcases List.mem_cons.mp hp with rfl | hp
      · exact ⟨hoI, fun e => hIL e.symm, hI0⟩
      · exact N₁ p hp
    refine wpAny_mono (hgo (i + 1) { s with heap := h₁, toks := tk₁ } v (fun _ s' => s' = { s with heap := h₁, toks := tk₁ }) hst₁ rfl) (fun _ s' e => ?_) fun _ _ x => x.elim
    subst e
    refine wpAny_mono (turn i v m' news' h₁ tk₁ oI hlt hP hJ F₁ N₁' hnI) (fun _ s₂ h₂ => wpAny_mono h₂ (fun f s₃ h₃ => ?_) fun _ _ x => x.elim) fun _ _ x => x.elim
    have fin : Turn h₀ env.locals (fun m' news' => ∃ nx, news' = (I, oI) :: nx ∧ (∀ p ∈ nx, p.1 ≠ I) ∧ J (i + 1) m' nx) s s₃ → ∃ k', k' < n + 1 - i ∧ ∃ h' tk m' news' i', s₃ = { s with heap := h', toks := tk } ∧ St i' h' ∧ Fr h₀ env.locals h' m' ∧ News h₀ env.locals h' news' ∧ (∀ p ∈ news', p.1 ≠ I) ∧ J i' m' news' ∧ i' ≤ n ∧ k' = n + 1 - i' := by
      rintro ⟨h₃', tk₃, m₂, news₂, rfl, F₃, N₃, nx, rfl, hnx, hJ₃⟩
      refine ⟨n + 1 - (i + 1), by omega, h₃', tk₃, m₂, nx, i + 1, rfl, ?_, F₃, fun p hp => N₃ p (.tail _ hp), hnx, hJ₃, hlt, rfl⟩
      refine W.frame _ _ _ hst₁ fun b hb o e => ?_
      by_cases hbI : b = I
      · subst hbI
        rw [hoI] at e; cases e
        exact (N₃ (b, oI) (.head _)).1
      · rcases hfp b hb hbI with ⟨o', ho'⟩ | ⟨o', ho'⟩
        · have : o' = o := by have := F₁.keep b o' ho'; rw [e] at this; exact (Option.some.inj this).symm
          exact this ▸ F₃.keep b o' ho'
        · have e1 := (N₁ (b, o') (ho' _ _ _ hJ)).1
          have : o' = o := by rw [e] at e1; exact (Option.some.inj e1).symm
          exact this ▸ (N₃ (b, o') (.tail _ (ho' _ _ _ hJ₃))).1
    cases f with
    | next => exact fin h₃
    | cont => exact fin h₃
    | brk => exact h₃
    | ret v => exact h₃
  · have hin : i = n := by omega
    subst hin
    refine W.done _ _ _ hst' fun h₁ tk₁ hk₁ => wpAny_execs_nil ?_
    obtain ⟨F₁, N₁⟩ := next h₁ hk₁
    exact done m' news' h₁ tk₁ hJ F₁ N₁

/-- for target in a list: the list as it stood before the def's call (hold), or as the ledger has it -/
theorem for_list {L : Addr} (hL : env.locals = L) {target : Expr} {body : List Stmt} {Q : Flow → Shared → Prop} {l : Addr} {items : List Value}
    (J : Addr → Nat → (PySem.Str → Option Value) → List (Addr × Obj) → Prop) (hh : A.handled = none) (F : Fr h₀ L s.heap m) (N : News h₀ L s.heap news)
    (hl : s.heap.IsList l items.toArray) (hlL : L ≠ l)
    (hfp : (∃ o, h₀.get? l = some o) ∨ ∃ o, (l, o) ∈ news ∧ ∀ I i m news, J I i m news → (l, o) ∈ news)
    (h0 : ∀ I, (∀ p ∈ news, p.1 < I) → J I 0 m news)
    (turn : ∀ I i v m news h tk oI, items[i]? = some v → J I i m news → Fr h₀ L h m → News h₀ L h ((I, oI) :: news) → (∀ p ∈ news, p.1 ≠ I) →
      wpAny (model prog w) A (assign target env v) (fun _ s₂ => wpAny (model prog w) A (execs body env)
        (TurnP h₀ L (fun m' news' => ∃ nx, news' = (I, oI) :: nx ∧ (∀ p ∈ nx, p.1 ≠ I) ∧ J I (i + 1) m' nx) s Q) (fun _ _ => False) s₂) (fun _ _ => False) { s with heap := h, toks := tk })
    (done : ∀ I m news h tk, J I items.length m news → Fr h₀ L h m → News h₀ L h news → Q .next { s with heap := h, toks := tk }) :
    wpAny (model prog w) A (pyIter (.ref l)) (fun it s₂ => codeAny (model prog w) A (.forLoop target it body [] env) (fun r s' => match r with | .ok f => Q f s' | .error e => cameBackBy (model prog w) A env E e s') s₂) E s := by
  subst hL
  obtain ⟨ol, hol, hcl, hdl⟩ := id hl
  have hne : l ≠ s.heap.objs.size := Nat.ne_of_lt (Heap.lt_size hol)
  refine wpAny_pyIter_list hl ?_
  have W := Walks.list (prog := prog) (w := w) hh s.heap.objs.size l hne items.toArray
  have hsz : items.toArray.size = items.length := by simp
  rw [hsz] at W
  refine for_core rfl (R := fun r s' => match r with | .ok f => Q f s' | .error e => cameBackBy (model prog w) A env E e s') W (J s.heap.objs.size) (F.push _) (fun p hp => ⟨Heap.get?_push_of_some _ (N p hp).1, (N p hp).2⟩)
    ⟨⟨_, Heap.get?_push_size _ rfl, rfl, rfl⟩, hl.at fun o e => Heap.get?_push_of_some _ e⟩ ⟨_, Heap.get?_push_size _ rfl⟩ (next_is_new F) (Nat.ne_of_lt F.ns.lt)
    (fun p hp => Nat.ne_of_lt (Heap.lt_size (N p hp).1)) (fun i h st => let ⟨⟨o, ho, _⟩, _⟩ := st; ⟨o, ho⟩) ?_ (fun i s' v Q' st hq => letGo_listiter st.1 hq) (h0 _ fun p hp => Heap.lt_size (N p hp).1) ?_ ?_
  · intro b hb hbI
    have hbl : b = l := by
      rcases List.mem_cons.mp hb with h | h
      · exact absurd h hbI
      · exact List.mem_singleton.mp h
    subst hbl
    rcases hfp with h | ⟨o, _, h⟩
    · exact .inl h
    · exact .inr ⟨o, fun i m news hJ => h _ i m news hJ⟩
  · intro i v m₁ news₁ h tk oI hi hP hJ F₁ N₁ hn
    exact turn _ i v m₁ news₁ h tk oI (by simpa using hP) hJ F₁ N₁ hn
  · intro m₁ news₁ h tk hJ F₁ N₁
    exact done _ m₁ news₁ h tk hJ F₁ N₁

theorem letGo_name {x : PySem.Str} {px : Pos} {it v : Value} {Q' : Unit → Shared → Prop} (h : Q' () s) : wpAny (model prog w) A (letOwnedTupleGo (.Name x px) it v) Q' E s := wpAny_pure h

/-- for c in a text -/
theorem for_str {L : Addr} (hL : env.locals = L) {x : PySem.Str} {px : Pos} {body : List Stmt} {Q : Flow → Shared → Prop} {y : PySem.Str} {t : Tok}
    (J : Addr → Nat → (PySem.Str → Option Value) → List (Addr × Obj) → Prop) (hh : A.handled = none) (F : Fr h₀ L s.heap m) (N : News h₀ L s.heap news)
    (h0 : ∀ I, (∀ p ∈ news, p.1 < I) → J I 0 m news)
    (turn : ∀ I i c u m news h tk oI, y.cps[i]? = some c → J I i m news → Fr h₀ L h m → News h₀ L h ((I, oI) :: news) → (∀ p ∈ news, p.1 ≠ I) →
      wpAny (model prog w) A (assign (.Name x px) env (.str ⟨#[c]⟩ u)) (fun _ s₂ => wpAny (model prog w) A (execs body env)
        (TurnP h₀ L (fun m' news' => ∃ nx, news' = (I, oI) :: nx ∧ (∀ p ∈ nx, p.1 ≠ I) ∧ J I (i + 1) m' nx) s Q) (fun _ _ => False) s₂) (fun _ _ => False) { s with heap := h, toks := tk })
    (done : ∀ I m news h tk, J I y.cps.size m news → Fr h₀ L h m → News h₀ L h news → Q .next { s with heap := h, toks := tk }) :
    wpAny (model prog w) A (pyIter (.str y t)) (fun it s₂ => codeAny (model prog w) A (.forLoop (.Name x px) it body [] env) (fun r s' => match r with | .ok f => Q f s' | .error e => cameBackBy (model prog w) A env E e s') s₂) E s := by
  subst hL
  have core : ∀ (o : Obj) (St : Nat → Heap → Prop), Walks prog w A s.heap.objs.size [s.heap.objs.size] [s.heap.objs.size] y.cps.size (SignAt y) St → o.isFreed = false → St 0 (s.heap.push o) → (∀ i h, St i h → ∃ o, h.get? s.heap.objs.size = some o) →
      codeAny (model prog w) A (.forLoop (.Name x px) (.ref s.heap.objs.size) body [] env) (fun r s' => match r with | .ok f => Q f s' | .error e => cameBackBy (model prog w) A env E e s') { s with heap := s.heap.push o } := by
    intro o St W hf hst hlive
    refine for_core rfl (R := fun r s' => match r with | .ok f => Q f s' | .error e => cameBackBy (model prog w) A env E e s') W (J s.heap.objs.size) (F.push _) (fun p hp => ⟨Heap.get?_push_of_some _ (N p hp).1, (N p hp).2⟩)
      hst ⟨_, Heap.get?_push_size _ hf⟩ (next_is_new F) (Nat.ne_of_lt F.ns.lt)
      (fun p hp => Nat.ne_of_lt (Heap.lt_size (N p hp).1)) hlive ?_ (fun i s' v Q' st hq => letGo_name hq) (h0 _ fun p hp => Heap.lt_size (N p hp).1) ?_ ?_
    · intro b hb hbI
      exact absurd (List.mem_singleton.mp hb) hbI
    · rintro i v m₁ news₁ h tk oI hi ⟨c, u, hc, rfl⟩ hJ F₁ N₁ hn
      exact turn _ i c u m₁ news₁ h tk oI hc hJ F₁ N₁ hn
    · intro m₁ news₁ h tk hJ F₁ N₁
      exact done _ m₁ news₁ h tk hJ F₁ N₁
  cases ha : y.cps.all (· < 128)
  · exact wpAny_pyIter_wide ha (core _ _ (Walks.strWide hh _ y t) rfl ⟨_, Heap.get?_push_size _ rfl, rfl, rfl⟩ fun i h st => let ⟨o, ho, _⟩ := st; ⟨o, ho⟩)
  · exact wpAny_pyIter_ascii ha (core _ _ (Walks.strAscii hh _ y t) rfl ⟨_, Heap.get?_push_size _ rfl, rfl, rfl⟩ fun i h st => let ⟨o, ho, _⟩ := st; ⟨o, ho⟩)
/-- the For itself: its iterable, then the loop -/
theorem for_stmt {target iter : Expr} {body : List Stmt} {pos : Pos} {Q : Flow → Shared → Prop}
    (h : wpAny (model prog w) A (eval iter env) (fun x s₁ => wpAny (model prog w) A (pyIter x) (fun it s₂ => codeAny (model prog w) A (.forLoop target it body [] env) (fun r s' => match r with | .ok f => Q f s' | .error e => cameBackBy (model prog w) A env E e s') s₂) E s₁) E s)
    (hs : ∀ x, foldedSetIterable iter env x = pure x) : wpAny (model prog w) A (exec (.For target iter body [] pos) env) Q E s := wpAny_For h hs
end
/-- one statement, then forget all but what Pm says -/
def CutP (h₀ : Heap) (L : Addr) (Pm : (PySem.Str → Option Value) → List (Addr × Obj) → Prop) (s : Shared) (f : Flow) (s' : Shared) : Prop :=
  match f with
  | .next => Turn h₀ L Pm s s'
  | _ => False
theorem cut_stmt {prog : Program} {w : World} {A : Around} {E : Value → Shared → Prop} {s : Shared} {env : Env} {st : Stmt} {rest : List Stmt} {Q : Flow → Shared → Prop} {h₀ : Heap} {L : Addr} (Pm : (PySem.Str → Option Value) → List (Addr × Obj) → Prop)
    (h1 : wpAny (model prog w) A (exec st env) (CutP h₀ L Pm s) E s)
    (h2 : ∀ h tk m news, Fr h₀ L h m → News h₀ L h news → Pm m news → wpAny (model prog w) A (execs rest env) Q E { s with heap := h, toks := tk }) : wpAny (model prog w) A (execs (st :: rest) env) Q E s := by
  refine wpAny_execs_cons (wpAny_mono h1 (fun f s' h => ?_) fun _ _ y => y)
  cases f with
  | next =>
    obtain ⟨h', tk, m', news', rfl, F, N, p⟩ := h
    exact h2 h' tk m' news' F N p
  | _ => exact h.elim
end
-- P1
section
namespace BT
/-- the signs of n's lowest w bits, the highest first -/
def bl : Nat → Nat → List Nat
  | 0, _ => []
  | w + 1, n => bl w (n / 2) ++ [48 + n % 2]
def bst (w n : Nat) : PySem.Str := ⟨(bl w n).toArray⟩
theorem bl_length : ∀ w n, (bl w n).length = w
  | 0, _ => rfl
  | w + 1, n => by simp [bl, bl_length w]
theorem bst_length (w n : Nat) : (bst w n).length = w := by
  show (bl w n).toArray.size = w
  rw [List.size_toArray, bl_length]
theorem bst_size (w n : Nat) : (bst w n).cps.size = w := bst_length w n
theorem bl_mem : ∀ w n, ∀ c ∈ bl w n, c = 48 ∨ c = 49
  | 0, _, c, h => nomatch h
  | w + 1, n, c, h => by
    rcases List.mem_append.mp h with h | h
    · exact bl_mem w _ c h
    · rw [List.mem_singleton.mp h]; omega
theorem bl_mod : ∀ w n, bl w (n % 2 ^ w) = bl w n
  | 0, _ => rfl
  | w + 1, n => by
    have e1 : n % 2 ^ (w + 1) / 2 = n / 2 % 2 ^ w := by
      rw [Nat.pow_succ, Nat.mul_comm, Nat.mod_mul_right_div_self]
    have e2 : n % 2 ^ (w + 1) % 2 = n % 2 := Nat.mod_mod_of_dvd _ (by rw [Nat.pow_succ]; exact Nat.dvd_mul_left _ _)
    show bl w (n % 2 ^ (w + 1) / 2) ++ [48 + n % 2 ^ (w + 1) % 2] = bl w (n / 2) ++ [48 + n % 2]
    rw [e1, e2, bl_mod w]
theorem bl_app : ∀ b a x y, bl a x ++ bl b y = bl (a + b) (x * 2 ^ b + y % 2 ^ b)
  | 0, a, x, y => by simp [bl, Nat.mod_one]
  | b + 1, a, x, y => by
    have ih := bl_app b a x (y / 2)
    show bl a x ++ (bl b (y / 2) ++ [48 + y % 2]) = bl (a + b) ((x * 2 ^ (b + 1) + y % 2 ^ (b + 1)) / 2) ++ [48 + (x * 2 ^ (b + 1) + y % 2 ^ (b + 1)) % 2]
    rw [← List.append_assoc, ih]
    have e1 : y % 2 ^ (b + 1) = 2 * (y / 2 % 2 ^ b) + y % 2 := by
      have h1 : y % 2 ^ (b + 1) / 2 = y / 2 % 2 ^ b := by rw [Nat.pow_succ, Nat.mul_comm, Nat.mod_mul_right_div_self]
      have h2 : y % 2 ^ (b + 1) % 2 = y % 2 := Nat.mod_mod_of_dvd _ (by rw [Nat.pow_succ]; exact Nat.dvd_mul_left _ _)
      omega
    have e2 : x * 2 ^ (b + 1) = 2 * (x * 2 ^ b) := by rw [Nat.pow_succ]; rw [← Nat.mul_assoc]; omega
    have e3 : (x * 2 ^ (b + 1) + y % 2 ^ (b + 1)) / 2 = x * 2 ^ b + y / 2 % 2 ^ b := by omega
    have e4 : (x * 2 ^ (b + 1) + y % 2 ^ (b + 1)) % 2 = y % 2 := by omega
    rw [e3, e4]
theorem bl_app' {a b x y : Nat} (hy : y < 2 ^ b) : bl a x ++ bl b y = bl (a + b) (x * 2 ^ b + y) := by
  rw [bl_app, Nat.mod_eq_of_lt hy]
theorem bl_split (a b n : Nat) : bl (a + b) n = bl a (n / 2 ^ b) ++ bl b n := by
  rw [bl_app, ← bl_mod (a + b) n, ← bl_mod (a + b) (n / 2 ^ b * 2 ^ b + n % 2 ^ b), Nat.mul_comm, Nat.div_add_mod]
theorem bl_take (a b n : Nat) : (bl (a + b) n).take a = bl a (n / 2 ^ b) := by
  rw [bl_split, List.take_left' (bl_length a _)]
theorem bl_drop (a b n : Nat) : (bl (a + b) n).drop a = bl b n := by
  rw [bl_split, List.drop_left' (bl_length a _)]
theorem bl_zero : ∀ w, bl w 0 = List.replicate w 48
  | 0 => rfl
  | w + 1 => by
    show bl w (0 / 2) ++ [48 + 0 % 2] = _
    rw [Nat.zero_div, bl_zero w, List.replicate_succ']
theorem bl_ones : ∀ w, bl w (2 ^ w - 1) = List.replicate w 49
  | 0 => rfl
  | w + 1 => by
    have h : 0 < 2 ^ w := Nat.two_pow_pos w
    have e1 : (2 ^ (w + 1) - 1) / 2 = 2 ^ w - 1 := by rw [Nat.pow_succ]; omega
    have e2 : (2 ^ (w + 1) - 1) % 2 = 1 := by rw [Nat.pow_succ]; omega
    show bl w ((2 ^ (w + 1) - 1) / 2) ++ [48 + (2 ^ (w + 1) - 1) % 2] = _
    rw [e1, e2, bl_ones w, List.replicate_succ']
theorem bl_head (w n : Nat) : (bl (w + 1) n)[0]? = some (48 + n / 2 ^ w % 2) := by
  have : bl (w + 1) n = bl (1 + w) n := by rw [Nat.add_comm]
  rw [this, bl_split 1 w n]
  rfl
theorem bst_app {a b x y : Nat} (hy : y < 2 ^ b) : bst a x ++ bst b y = bst (a + b) (x * 2 ^ b + y) := by
  refine str_ext ?_
  rw [show (bst a x ++ bst b y).cps.toList = bl a x ++ bl b y from Array.toList_append .., bl_app' hy]; rfl
theorem bst_inj {w x y : Nat} (hx : x < 2 ^ w) (hy : y < 2 ^ w) (h : bl w x = bl w y) : x = y := by
  induction w generalizing x y with
  | zero => simp at hx hy; omega
  | succ w ih =>
    have h1 : bl w (x / 2) = bl w (y / 2) ∧ [48 + x % 2] = [48 + y % 2] := List.append_inj h (by rw [bl_length, bl_length])
    have h2 : 48 + x % 2 = 48 + y % 2 := by simpa using h1.2
    have := ih (x := x / 2) (y := y / 2) (by rw [Nat.pow_succ] at hx; omega) (by rw [Nat.pow_succ] at hy; omega) h1.1
    omega

/-- digits of a number, as signs -/
theorem dg_bin (d : Nat) (h : d < 2) : RN.dg (48 + d) = d := by
  have : d = 0 ∨ d = 1 := by omega
  rcases this with rfl | rfl <;> rfl
theorem dval_snoc (b : Nat) (cs : List Nat) (c : Nat) : RN.dval b (cs ++ [c]) = RN.dval b cs * b + RN.dg c := by
  unfold RN.dval
  rw [List.foldl_append]; rfl
theorem dval_bl : ∀ w n, RN.dval 2 (bl w n) = n % 2 ^ w
  | 0, n => by rw [Nat.pow_zero, Nat.mod_one]; rfl
  | w + 1, n => by
    show RN.dval 2 (bl w (n / 2) ++ [48 + n % 2]) = _
    rw [dval_snoc, dval_bl w, dg_bin _ (Nat.mod_lt _ (by decide))]
    have h1 : n % 2 ^ (w + 1) / 2 = n / 2 % 2 ^ w := by rw [Nat.pow_succ, Nat.mul_comm, Nat.mod_mul_right_div_self]
    have h2 : n % 2 ^ (w + 1) % 2 = n % 2 := Nat.mod_mod_of_dvd _ (by rw [Nat.pow_succ]; exact Nat.dvd_mul_left _ _)
    omega
theorem dig_bl (w n : Nat) : ∀ c ∈ bl w n, RN.Dig 2 c := by
  intro c hc
  rcases bl_mem w n c hc with rfl | rfl
  · exact ⟨0, rfl, by decide⟩
  · exact ⟨1, rfl, by decide⟩
theorem prefix_bl (w n : Nat) : NumText.prefix? (bl w n) = none := by
  unfold NumText.prefix?
  split
  · rename_i c r e
    have h : c ∈ bl w n := by rw [e]; exact .tail _ (.head _)
    rcases bl_mem w n c h with rfl | rfl <;> rfl
  · rfl

/-- octets of a number, the highest first -/
def toB : Nat → Nat → List UInt8
  | 0, _ => []
  | k + 1, n => toB k (n / 256) ++ [(n % 256).toUInt8]
def fromB (bs : List UInt8) : Nat := bs.foldl (fun a b => a * 256 + b.toNat) 0
theorem toB_length : ∀ k n, (toB k n).length = k
  | 0, _ => rfl
  | k + 1, n => by simp [toB, toB_length k]
theorem fromB_snoc (bs : List UInt8) (b : UInt8) : fromB (bs ++ [b]) = fromB bs * 256 + b.toNat := by
  unfold fromB; rw [List.foldl_append]; rfl
theorem u8 (n : Nat) : ((n % 256).toUInt8).toNat = n % 256 := by
  show (UInt8.ofNat (n % 256)).toNat = _
  rw [UInt8.toNat_ofNat']; omega
theorem from_toB : ∀ k n, fromB (toB k n) = n % 256 ^ k
  | 0, n => by rw [Nat.pow_zero, Nat.mod_one]; rfl
  | k + 1, n => by
    show fromB (toB k (n / 256) ++ [(n % 256).toUInt8]) = _
    rw [fromB_snoc, from_toB k, u8]
    have h1 : n % 256 ^ (k + 1) / 256 = n / 256 % 256 ^ k := by rw [Nat.pow_succ, Nat.mul_comm, Nat.mod_mul_right_div_self]
    have h2 : n % 256 ^ (k + 1) % 256 = n % 256 := Nat.mod_mod_of_dvd _ (by rw [Nat.pow_succ]; exact Nat.dvd_mul_left _ _)
    omega
theorem fromB_lt (bs : List UInt8) : fromB bs < 256 ^ bs.length := by
  have key : ∀ (n : Nat) (bs : List UInt8), bs.length = n → fromB bs < 256 ^ n := by
    intro n
    induction n with
    | zero => intro bs h; rw [List.length_eq_zero_iff.mp h]; decide
    | succ n ih =>
      intro bs h
      have hne : bs ≠ [] := by intro e; rw [e] at h; cases h
      have e := List.dropLast_concat_getLast hne
      rw [← e, fromB_snoc]
      have := ih bs.dropLast (by rw [List.length_dropLast, h]; rfl)
      have hb := UInt8.toNat_lt (bs.getLast hne)
      rw [Nat.pow_succ]
      omega
  exact key _ bs rfl
theorem to_fromB (bs : List UInt8) : toB bs.length (fromB bs) = bs := by
  have key : ∀ (n : Nat) (bs : List UInt8), bs.length = n → toB n (fromB bs) = bs := by
    intro n
    induction n with
    | zero => intro bs h; rw [List.length_eq_zero_iff.mp h]; rfl
    | succ n ih =>
      intro bs h
      have hne : bs ≠ [] := by intro e; rw [e] at h; cases h
      have e := List.dropLast_concat_getLast hne
      have hb := UInt8.toNat_lt (bs.getLast hne)
      rw [← e, fromB_snoc]
      show toB n ((fromB bs.dropLast * 256 + (bs.getLast hne).toNat) / 256) ++ [((fromB bs.dropLast * 256 + (bs.getLast hne).toNat) % 256).toUInt8] = _
      rw [show (fromB bs.dropLast * 256 + (bs.getLast hne).toNat) / 256 = fromB bs.dropLast by omega, show (fromB bs.dropLast * 256 + (bs.getLast hne).toNat) % 256 = (bs.getLast hne).toNat by omega,
        ih bs.dropLast (by rw [List.length_dropLast, h]; rfl)]
      refine congrArg _ (congrArg (fun z => [z]) ?_)
      show UInt8.ofNat _ = _
      rw [UInt8.ofNat_toNat]
  exact key _ bs rfl
theorem hexL_app (a b : List UInt8) : RB.hexL (a ++ b) = RB.hexL a ++ RB.hexL b := by
  induction a with
  | nil => rfl
  | cons c r ih => simp [RB.hexL, ih]
theorem dg_hex : ∀ d : Nat, d < 16 → RN.dg (Builtin.Bytes.hexDigit d) = d := by decide
theorem dig_hexDigit : ∀ d : Nat, d < 16 → RN.Dig 16 (Builtin.Bytes.hexDigit d) := by
  intro d h
  have : ∀ d : Nat, d < 16 → NumText.digit? (Builtin.Bytes.hexDigit d) = some d := by decide
  exact ⟨d, this d h, h⟩
theorem dig_hexL (bs : List UInt8) : ∀ c ∈ RB.hexL bs, RN.Dig 16 c := by
  induction bs with
  | nil => intro c h; cases h
  | cons b r ih =>
    intro c h
    have hb := UInt8.toNat_lt b
    simp only [RB.hexL, List.mem_cons] at h
    rcases h with rfl | rfl | h
    · exact dig_hexDigit _ (by omega)
    · exact dig_hexDigit _ (by omega)
    · exact ih c h
/-- int(b'01' + hex, 16) -/
theorem dval_hex (bs : List UInt8) : RN.dval 16 ([48, 49] ++ RB.hexL bs) = 256 ^ bs.length + fromB bs := by
  have key : ∀ (n : Nat) (bs : List UInt8), bs.length = n → RN.dval 16 ([48, 49] ++ RB.hexL bs) = 256 ^ n + fromB bs := by
    intro n
    induction n with
    | zero => intro bs h; rw [List.length_eq_zero_iff.mp h]; rfl
    | succ n ih =>
      intro bs h
      have hne : bs ≠ [] := by intro e; rw [e] at h; cases h
      have e := List.dropLast_concat_getLast hne
      have hb := UInt8.toNat_lt (bs.getLast hne)
      have e2 : RB.hexL [bs.getLast hne] = [Builtin.Bytes.hexDigit ((bs.getLast hne).toNat / 16)] ++ [Builtin.Bytes.hexDigit ((bs.getLast hne).toNat % 16)] := rfl
      rw [← e, fromB_snoc, hexL_app, e2, ← List.append_assoc, ← List.append_assoc, dval_snoc, dval_snoc, ih bs.dropLast (by rw [List.length_dropLast, h]; rfl),
        dg_hex _ (by omega), dg_hex _ (by omega), Nat.pow_succ]
      omega
  exact key _ bs rfl
/-- bits and octets -/
theorem pow_256 (k : Nat) : 256 ^ k = 2 ^ (8 * k) := by rw [Nat.pow_mul]
theorem digitChar_toNat : ∀ d : Nat, d < 16 → (Nat.digitChar d).toNat = Builtin.Bytes.hexDigit d := by decide
theorem toDigits_bin (w n : Nat) (h : n < 2 ^ w) : (Nat.toDigits 2 (2 ^ w + n)).map Char.toNat = 49 :: bl w n := by
  induction w generalizing n with
  | zero => simp at h; subst h; rfl
  | succ w ih =>
    have h1 : n / 2 < 2 ^ w := by rw [Nat.pow_succ] at h; omega
    have e : 2 ^ (w + 1) + n = 2 * (2 ^ w + n / 2) + n % 2 := by rw [Nat.pow_succ]; omega
    rw [e, ← Nat.toDigits_append_toDigits (by decide) (by have := Nat.two_pow_pos w; omega) (Nat.mod_lt _ (by decide)), List.map_append, ih _ h1, Nat.toDigits_of_lt_base (Nat.mod_lt _ (by decide))]
    have : n % 2 = 0 ∨ n % 2 = 1 := by omega
    show 49 :: bl w (n / 2) ++ [(Nat.digitChar (n % 2)).toNat] = 49 :: (bl w (n / 2) ++ [48 + n % 2])
    rcases this with e | e <;> rw [e] <;> rfl
theorem toDigits_hex (k n : Nat) (h : n < 256 ^ k) : (Nat.toDigits 16 (128 * 256 ^ k + n)).map Char.toNat = 56 :: 48 :: RB.hexL (toB k n) := by
  induction k generalizing n with
  | zero => simp at h; subst h; rfl
  | succ k ih =>
    have h1 : n / 256 < 256 ^ k := by rw [Nat.pow_succ] at h; omega
    have hp : 0 < 256 ^ k := Nat.pow_pos (by decide)
    have e : 128 * 256 ^ (k + 1) + n = 16 * (16 * (128 * 256 ^ k + n / 256) + n % 256 / 16) + n % 16 := by rw [Nat.pow_succ]; omega
    rw [e, ← Nat.toDigits_append_toDigits (by decide) (by omega) (Nat.mod_lt _ (by decide)), ← Nat.toDigits_append_toDigits (by decide) (by omega) (by omega), List.map_append, List.map_append, ih _ h1,
      Nat.toDigits_of_lt_base (Nat.mod_lt _ (by decide)), Nat.toDigits_of_lt_base (by omega)]
    show 56 :: 48 :: RB.hexL (toB k (n / 256)) ++ [(Nat.digitChar (n % 256 / 16)).toNat] ++ [(Nat.digitChar (n % 16)).toNat] = 56 :: 48 :: RB.hexL (toB k (n / 256) ++ [(n % 256).toUInt8])
    rw [hexL_app, digitChar_toNat _ (by omega), digitChar_toNat _ (Nat.mod_lt _ (by decide))]
    have e2 : RB.hexL [(n % 256).toUInt8] = [Builtin.Bytes.hexDigit (n % 256 / 16), Builtin.Bytes.hexDigit (n % 16)] := by
      show [Builtin.Bytes.hexDigit (((n % 256).toUInt8).toNat / 16), Builtin.Bytes.hexDigit (((n % 256).toUInt8).toNat % 16)] = _
      rw [u8, show n % 256 % 16 = n % 16 by omega]
    rw [e2]
    simp
end BT
end
-- R3
section
namespace RS
open Builtin Builtin.Str Builtin.Int
/-- a text from its signs -/
abbrev tx (l : List Nat) : PySem.Str := ⟨l.toArray⟩
theorem tx_len (l : List Nat) : (tx l).length = l.length := List.size_toArray
theorem tx_app (a b : List Nat) : tx a ++ tx b = tx (a ++ b) := PySem.Str.ext' (by show a.toArray ++ b.toArray = (a ++ b).toArray; simp)
theorem tx_from (l : List Nat) (i : Nat) (h : i ≤ l.length) : Txt.slice (tx l) (some (i : Int)) none = tx (l.drop i) := by
  rw [slice_from_eq (b := (l.length : Int)) (by omega) (by rw [tx_len]; omega) (by rw [tx_len])]
  refine congrArg tx ?_
  show List.take _ (List.drop _ l.toArray.toList) = _
  rw [List.toList_toArray, Int.toNat_natCast]
  exact List.take_of_length_le (by rw [List.length_drop]; omega)
theorem tx_to (l : List Nat) (j : Nat) (h : j ≤ l.length) : Txt.slice (tx l) none (some (j : Int)) = tx (l.take j) := by
  rw [eq_of_beq (slice_closes_toL (x := tx l) (j := (j : Int)) (by omega) (by rw [tx_len]; omega))]
  refine congrArg tx ?_
  show List.take _ (List.drop _ l.toArray.toList) = _
  rw [List.toList_toArray, show ((j : Int) - 0).toNat = j by omega]
  rfl
theorem tx_mid (l : List Nat) (i j : Nat) (h : i ≤ j) (h2 : j ≤ l.length) : Txt.slice (tx l) (some (i : Int)) (some (j : Int)) = tx ((l.drop i).take (j - i)) := by
  rw [eq_of_beq (slice_closesL (x := tx l) (i := (i : Int)) (j := (j : Int)) (by omega) (by omega) (by rw [tx_len]; omega))]
  refine congrArg tx ?_
  show List.take _ (List.drop _ l.toArray.toList) = _
  rw [List.toList_toArray, Int.toNat_natCast, show ((j : Int) - (i : Int)).toNat = j - i by omega]
theorem reps (c : Array Nat) : ∀ (k : Nat) (acc : Array Nat), ((List.replicate k c).foldl (· ++ ·) acc).toList = acc.toList ++ (List.replicate k c.toList).flatten
  | 0, acc => by simp
  | k + 1, acc => by rw [List.replicate_succ, List.foldl_cons, reps c k]; simp [List.replicate_succ]
theorem tx_mul1 (c : Nat) (n : Nat) : Txt.mul (tx [c]) (n : Int) = tx (List.replicate n c) := by
  unfold Txt.mul
  by_cases h0 : n = 0
  · subst h0; rfl
  · rw [if_neg (by omega)]
    by_cases h1 : n = 1
    · subst h1; rfl
    · have : ((n : Int) == 1 || (tx [c]).length == 0) = false := by
        rw [Bool.or_eq_false_iff]; exact ⟨beq_eq_false_iff_ne.mpr (by omega), rfl⟩
      rw [this]
      refine str_ext ?_
      show (List.foldl _ _ _ : Array Nat).toList = _
      rw [Int.toNat_natCast, reps]
      simp [List.flatten_replicate_singleton]
theorem tx_mul1z (c : Nat) (n : Int) (h : n ≤ 0) : Txt.mul (tx [c]) n = tx [] := by
  unfold Txt.mul
  rw [if_pos (by omega)]; rfl
theorem ofString_digits (b n : Nat) : PySem.Str.ofString (String.ofList (Nat.toDigits b n)) = tx ((Nat.toDigits b n).map Char.toNat) := by
  refine str_ext ?_
  rw [PySem.Str.ofString_eq_toList]
  simp
theorem base_tx (pre : String) (p : List Nat) (hp : PySem.Str.ofString pre = tx p) (b n : Nat) : baseText pre b (n : Int) = tx (p ++ (Nat.toDigits b n).map Char.toNat) := by
  rw [baseText_nonneg (by omega), hp, Int.natAbs_natCast, ofString_digits]
  have : PySem.Str.ofString "" = tx [] := rfl
  rw [this, tx_app, tx_app]; rfl
/-- bin of a number whose first bit stands alone -/
theorem bin_bl (w n : Nat) (h : n < 2 ^ w) : baseText "0b" 2 ((2 ^ w + n : Nat) : Int) = tx (48 :: 98 :: 49 :: BT.bl w n) := by
  rw [base_tx "0b" [48, 98] rfl, BT.toDigits_bin w n h]; rfl
theorem hex_bl (k n : Nat) (h : n < 256 ^ k) : baseText "0x" 16 ((128 * 256 ^ k + n : Nat) : Int) = tx (48 :: 120 :: 56 :: 48 :: RB.hexL (BT.toB k n)) := by
  rw [base_tx "0x" [48, 120] rfl, BT.toDigits_hex k n h]; rfl
/-- nothing to strip -/
theorem rstrip_no (l : List Nat) (y : PySem.Str) (h : ∀ c ∈ l, y.cps.contains c = false) : Txt.rstripChars (tx l) y = tx l := by
  unfold Txt.rstripChars Txt.stripBy
  split
  · rfl
  · refine str_ext ?_
    show (strSub (tx l) _ _).cps.toList = _
    rw [StrLaws.strSub_toList]
    have h2 : ∀ p : List Nat, (∀ c ∈ p, y.cps.contains c = false) → (p.takeWhile fun c => y.cps.contains c) = [] := by
      intro p hp
      cases p with
      | nil => rfl
      | cons a r => rw [List.takeWhile_cons, hp a (.head _)]; rfl
    have e : stripHi y.cps.contains true (tx l) (stripLo y.cps.contains false (tx l)) = l.length := by
      have e0 : stripLo y.cps.contains false (tx l) = 0 := rfl
      rw [e0]
      unfold stripHi
      rw [if_pos rfl]
      show l.toArray.size - (List.takeWhile _ _).length = _
      rw [List.drop_zero]
      show l.toArray.size - (List.takeWhile _ l.toArray.toList.reverse).length = _
      rw [h2 _ (fun c hc => h c (by simpa using hc))]
      simp
    rw [e]
    simp [stripLo]
section
variable {prog : Program} {w : World} {A : Around} {E : Value → Shared → Prop} {s : Shared} {x y z : PySem.Str} {t u : Tok} {Q : Value → Shared → Prop} {value slice : PySem.Expr} {h₀ : Heap} {L : Addr} {m : PySem.Str → Option Value} {news : List (Addr × Obj)}
theorem add (e : x ++ y = z) (hs : z.length ≤ sizeLine) (h : ∀ t' k, Q (.str z t') { s with toks := k }) : wpAny (model prog w) A (binaryOp .Add (.str x t) (.str y u)) Q E s :=
  SB.add (fun t' k => by rw [e]; exact h t' k) (by rw [← e, PySem.Str.length_append] at hs; exact hs)
theorem iadd (e : x ++ y = z) (hs : z.length ≤ sizeLine) (h : ∀ t' k, Q (.str z t') { s with toks := k }) : wpAny (model prog w) A (inplaceOp .Add (.str x t) (.str y u)) Q E s :=
  SB.iadd (fun t' k => by rw [e]; exact h t' k) (by rw [← e, PySem.Str.length_append] at hs; exact hs)
theorem rmul {n : Int} (e : Txt.mul x n = z) (h1 : x.length ≤ 16) (h2 : -(2 ^ 63 : Int) ≤ n) (h3 : n ≤ (1048576 : Nat)) (h : ∀ t' k, Q (.str z t') { s with toks := k }) : wpAny (model prog w) A (binaryOp .Mult (.int n u) (.str x t)) Q E s := by
  obtain ⟨hr, hb, hl⟩ := mulOk_of 16 1048576 h1 h3 h2 (by decide) (by decide)
  refine lm_binaryOp_repeat_right (T := "str") (U := "int") (by decide) (fun s' => typeIs_int s' n u) (typeIs_str s x t) F.fills_int_mul noFill_str_mul F.slot_int_mul lm_noRepeat_int repeat_str F.slot_int_index.lookup ?_
  refine call_gives F.slot_int_mul (typeIs_int s n u) F.entry_int_mul (F.args_int_mul_2 _ _) (AutoIntG3.int___mul___int_str_0 n u x t) ⟨rfl, typeIs_str s x t, ?_⟩
  refine call_gives F.slot_str_mul (typeIs_str s x t) F.entry_str_mul (F.args_str_mul_2 _ _) (gives_str_mul x n t u hr hb hl) ?_
  have k : ∀ t' k, Q (.str (Txt.mul x n) t') { s with toks := k } := fun t' k => by rw [e]; exact h t' k
  unfold Txt.mul at k
  split
  · rename_i hn; rw [if_pos hn] at k; exact ⟨by decide, k _ _⟩
  · rename_i hn
    rw [if_neg hn] at k
    split
    · rename_i hm; rw [if_pos hm] at k; exact k _ _
    · rename_i hm
      rw [if_neg hm] at k
      refine ⟨?_, k _ _⟩
      show (Array.size _) ≤ _
      rw [len_reps, sizeLine_eq]
      have : n.toNat * x.cps.size ≤ 1048576 * 16 := Nat.mul_le_mul (by omega) h1
      have e0 : (#[] : Array Nat).size = 0 := rfl
      rw [e0]; omega
theorem bin {i : Int} (e : baseText "0b" 2 i = z) (hs : z.length ≤ sizeLine) (h : Q (.str z s.toks) { s with toks := s.toks + 1 }) : wpAny (model prog w) A (call (.builtin "bin") [.int i t]) Q E s := by
  subst e; exact P.bin_of_int h hs
theorem hex {i : Int} (e : baseText "0x" 16 i = z) (hs : z.length ≤ sizeLine) (h : Q (.str z s.toks) { s with toks := s.toks + 1 }) : wpAny (model prog w) A (call (.builtin "hex") [.int i t]) Q E s := by
  subst e; exact P.hex_of_int h hs
theorem rstrip (e : Txt.rstripChars x y = z) (hs : x.length ≤ sizeLine) (h : ∀ t' k, Q (.str z t') { s with toks := k }) : wpAny (model prog w) A (call (.builtin "str.rstrip") [.str x t, .str y u]) Q E s :=
  SC.rstripChars (fun t' k => by rw [e]; exact h t' k) hs
theorem ss {i j : Int} {ui uj : Tok} (F : Fr h₀ L s.heap m) (N : News h₀ L s.heap news) (e : Txt.slice x (some i) (some j) = z) (hz : x.length ≤ sizeLine) (h : ∀ h' t' k, Fr h₀ L h' m → News h₀ L h' news → Q (.str z t') { s with heap := h', toks := k })
    (hs : subscripted slice false (.str x t) (.ref s.heap.objs.size) = operate [.ref s.heap.objs.size, .str x t] (getItem (.str x t) (.ref s.heap.objs.size)) := by with_unfolding_all rfl)
    (ht : ∀ r, letTemporaryGo value (.str x t) r = pure () := by intro _; with_unfolding_all rfl) :
    wpAny (model prog w) A (subscriptTail value slice (.str x t) (.ref s.heap.objs.size)) Q E { s with heap := s.heap.push { cls := .type "slice", data := .fields #[.int i ui, .int j uj, .none] } } :=
  slice_strN_ss F N (fun h' t' k a b => by rw [e]; exact h h' t' k a b) hs ht hz
theorem sn {i : Int} {ui : Tok} (F : Fr h₀ L s.heap m) (N : News h₀ L s.heap news) (e : Txt.slice x (some i) none = z) (hz : x.length ≤ sizeLine) (h : ∀ h' t' k, Fr h₀ L h' m → News h₀ L h' news → Q (.str z t') { s with heap := h', toks := k })
    (hs : subscripted slice false (.str x t) (.ref s.heap.objs.size) = operate [.ref s.heap.objs.size, .str x t] (getItem (.str x t) (.ref s.heap.objs.size)) := by with_unfolding_all rfl)
    (ht : ∀ r, letTemporaryGo value (.str x t) r = pure () := by intro _; with_unfolding_all rfl) :
    wpAny (model prog w) A (subscriptTail value slice (.str x t) (.ref s.heap.objs.size)) Q E { s with heap := s.heap.push { cls := .type "slice", data := .fields #[.int i ui, .none, .none] } } :=
  slice_strN_sn F N (fun h' t' k a b => by rw [e]; exact h h' t' k a b) hs ht hz
theorem ns {j : Int} {uj : Tok} (F : Fr h₀ L s.heap m) (N : News h₀ L s.heap news) (e : Txt.slice x none (some j) = z) (hz : x.length ≤ sizeLine) (h : ∀ h' t' k, Fr h₀ L h' m → News h₀ L h' news → Q (.str z t') { s with heap := h', toks := k })
    (hs : subscripted slice false (.str x t) (.ref s.heap.objs.size) = operate [.ref s.heap.objs.size, .str x t] (getItem (.str x t) (.ref s.heap.objs.size)) := by with_unfolding_all rfl)
    (ht : ∀ r, letTemporaryGo value (.str x t) r = pure () := by intro _; with_unfolding_all rfl) :
    wpAny (model prog w) A (subscriptTail value slice (.str x t) (.ref s.heap.objs.size)) Q E { s with heap := s.heap.push { cls := .type "slice", data := .fields #[.none, .int j uj, .none] } } :=
  slice_strN_ns F N (fun h' t' k a b => by rw [e]; exact h h' t' k a b) hs ht hz
theorem item {i : Int} (e : Txt.item x i = z) (h0 : -(x.length : Int) ≤ i) (h1 : i < (x.length : Int)) (hn : x.length ≤ 16777216) (h : Q (.str z s.toks) { s with toks := s.toks + 1 })
    (hs : subscripted slice false (.str x t) (.int i u) = operate [.str x t, .int i u] (getItem (.str x t) (.int i u)) := by with_unfolding_all rfl)
    (ht : ∀ r, letTemporaryGo value (.str x t) r = pure () := by intro _; with_unfolding_all rfl) :
    wpAny (model prog w) A (subscriptTail value slice (.str x t) (.int i u)) Q E s :=
  KXi.item rfl h0 h1 hn (fun _ => by rw [e]; exact h) hs ht
/-- int(bits, 2) -/
theorem int_bl {W n : Nat} (hn : n < 2 ^ W) (h0 : 1 ≤ W) (hl : W ≤ 640) (h : Q (.int (n : Int) s.toks) { s with toks := s.toks + 1 }) :
    wpAny (model prog w) A (call (.type "int") [.str (tx (BT.bl W n)) t, .int 2 u]) Q E s := by
  refine RN.int_str2 (x := tx (BT.bl W n)) ?_ ?_ ?_ ?_ ?_
  · exact BT.dig_bl W n
  · intro c
    have := congrArg List.length c
    have e : (BT.bl W n).length = W := BT.bl_length W n
    change (BT.bl W n).length = 0 at this
    omega
  · exact BT.prefix_bl W n
  · rw [tx_len, BT.bl_length]; exact hl
  · have e : RN.dval 2 (tx (BT.bl W n)).cps.toList = n := by
      show RN.dval 2 (BT.bl W n) = n
      rw [BT.dval_bl, Nat.mod_eq_of_lt hn]
    rw [e]; exact h
end
end RS
end
local macro_rules | `(tactic| walk_at "mine le") => `(tactic| (simp only [BT.bst_length, RS.tx_len, BT.bl_length, List.length_append, List.length_cons, List.length_nil, List.length_replicate, RB.hexL_length, BT.toB_length, sizeLine_eq, PySem.Str.length_append, List.size_toArray]; omega))
local macro_rules | `(tactic| walk_at "mine eq") => `(tactic| first | with_reducible assumption | exact rfl)
local macro_rules | `(tactic| walk_at "binaryOp Add str str") => `(tactic| k_dflt ((refine' RS.add ?e ?hs ?_; (case e => walk_at "mine eq"); (case hs => walk_at "mine le"); intro _ _)))
local macro_rules | `(tactic| walk_at "inplaceOp Add str str") => `(tactic| k_dflt ((refine' RS.iadd ?e ?hs ?_; (case e => walk_at "mine eq"); (case hs => walk_at "mine le"); intro _ _)))
local macro_rules | `(tactic| walk_at "binaryOp Mult int str") => `(tactic| k_dflt ((refine' RS.rmul ?e ?h1 ?h2 ?h3 ?_; (case e => walk_at "mine eq"); (case h1 => exact Nat.le_of_ble_eq_true rfl); (case h2 => omega); (case h3 => omega); intro _ _)))
local macro_rules | `(tactic| walk_at "call builtin:bin") => `(tactic| k_dflt ((refine' RS.bin ?e ?hs ?_; (case e => walk_at "mine eq"); (case hs => walk_at "mine le"))))
local macro_rules | `(tactic| walk_at "call builtin:hex") => `(tactic| k_dflt ((refine' RS.hex ?e ?hs ?_; (case e => walk_at "mine eq"); (case hs => walk_at "mine le"))))
local macro_rules | `(tactic| walk_at "call builtin:str.rstrip") => `(tactic| k_dflt ((refine' RS.rstrip ?e ?hs ?_; (case e => walk_at "mine eq"); (case hs => walk_at "mine le"); intro _ _)))
local macro_rules | `(tactic| walk_at "call type:int") => `(tactic| k_dflt (((with_reducible show wpAny _ _ (call (Value.type "int") [Value.str _ _, _]) _ _ _); refine' RS.int_bl ?hn ?h0 ?hl ?_; (case hn => assumption); (case h0 => omega); (case hl => omega))))
local macro_rules | `(tactic| walk_at "subscriptTail Name Slice str ref") => `(tactic| k_dflt ((k_here; (with_reducible show wpAny _ _ (subscriptTail _ (Expr.Slice (some _) none none _) (Value.str _ _) (Value.ref _)) _ _ _); (with_reducible rename Fr _ _ _ _ => F'); (with_reducible rename News _ _ _ _ => N'); refine' RS.sn (s := ⟨_, _, _, _, _⟩) F' N' ?e ?hz ?_; (case e => walk_at "mine eq"); (case hz => walk_at "mine le"); intro _ _ _ _ _)))
local macro_rules | `(tactic| walk_at "subscriptTail Call Slice str ref") => `(tactic| k_dflt ((k_here; (with_reducible show wpAny _ _ (subscriptTail _ (Expr.Slice (some _) none none _) (Value.str _ _) (Value.ref _)) _ _ _); (with_reducible rename Fr _ _ _ _ => F'); (with_reducible rename News _ _ _ _ => N'); refine' RS.sn (s := ⟨_, _, _, _, _⟩) F' N' ?e ?hz ?_; (case e => walk_at "mine eq"); (case hz => walk_at "mine le"); intro _ _ _ _ _)))
local macro_rules | `(tactic| walk_at "subscriptTail") => `(tactic| k_dflt ((k_here; (with_reducible show wpAny _ _ (subscriptTail _ (Expr.Slice (some _) none none _) (Value.str _ _) (Value.ref _)) _ _ _); (with_reducible rename Fr _ _ _ _ => F'); (with_reducible rename News _ _ _ _ => N'); refine' RS.sn (s := ⟨_, _, _, _, _⟩) F' N' ?e ?hz ?_; (case e => walk_at "mine eq"); (case hz => walk_at "mine le"); intro _ _ _ _ _)))
local macro_rules | `(tactic| walk_at "subscriptTail Name Slice str ref") => `(tactic| k_dflt ((k_here; (with_reducible show wpAny _ _ (subscriptTail _ (Expr.Slice none (some _) none _) (Value.str _ _) (Value.ref _)) _ _ _); (with_reducible rename Fr _ _ _ _ => F'); (with_reducible rename News _ _ _ _ => N'); refine' RS.ns (s := ⟨_, _, _, _, _⟩) F' N' ?e ?hz ?_; (case e => walk_at "mine eq"); (case hz => walk_at "mine le"); intro _ _ _ _ _)))
local macro_rules | `(tactic| walk_at "subscriptTail Call Slice str ref") => `(tactic| k_dflt ((k_here; (with_reducible show wpAny _ _ (subscriptTail _ (Expr.Slice none (some _) none _) (Value.str _ _) (Value.ref _)) _ _ _); (with_reducible rename Fr _ _ _ _ => F'); (with_reducible rename News _ _ _ _ => N'); refine' RS.ns (s := ⟨_, _, _, _, _⟩) F' N' ?e ?hz ?_; (case e => walk_at "mine eq"); (case hz => walk_at "mine le"); intro _ _ _ _ _)))
local macro_rules | `(tactic| walk_at "subscriptTail") => `(tactic| k_dflt ((k_here; (with_reducible show wpAny _ _ (subscriptTail _ (Expr.Slice none (some _) none _) (Value.str _ _) (Value.ref _)) _ _ _); (with_reducible rename Fr _ _ _ _ => F'); (with_reducible rename News _ _ _ _ => N'); refine' RS.ns (s := ⟨_, _, _, _, _⟩) F' N' ?e ?hz ?_; (case e => walk_at "mine eq"); (case hz => walk_at "mine le"); intro _ _ _ _ _)))
local macro_rules | `(tactic| walk_at "subscriptTail Name Slice str ref") => `(tactic| k_dflt ((k_here; (with_reducible show wpAny _ _ (subscriptTail _ (Expr.Slice (some _) (some _) none _) (Value.str _ _) (Value.ref _)) _ _ _); (with_reducible rename Fr _ _ _ _ => F'); (with_reducible rename News _ _ _ _ => N'); refine' RS.ss (s := ⟨_, _, _, _, _⟩) F' N' ?e ?hz ?_; (case e => walk_at "mine eq"); (case hz => walk_at "mine le"); intro _ _ _ _ _)))
local macro_rules | `(tactic| walk_at "subscriptTail Call Slice str ref") => `(tactic| k_dflt ((k_here; (with_reducible show wpAny _ _ (subscriptTail _ (Expr.Slice (some _) (some _) none _) (Value.str _ _) (Value.ref _)) _ _ _); (with_reducible rename Fr _ _ _ _ => F'); (with_reducible rename News _ _ _ _ => N'); refine' RS.ss (s := ⟨_, _, _, _, _⟩) F' N' ?e ?hz ?_; (case e => walk_at "mine eq"); (case hz => walk_at "mine le"); intro _ _ _ _ _)))
local macro_rules | `(tactic| walk_at "subscriptTail") => `(tactic| k_dflt ((k_here; (with_reducible show wpAny _ _ (subscriptTail _ (Expr.Slice (some _) (some _) none _) (Value.str _ _) (Value.ref _)) _ _ _); (with_reducible rename Fr _ _ _ _ => F'); (with_reducible rename News _ _ _ _ => N'); refine' RS.ss (s := ⟨_, _, _, _, _⟩) F' N' ?e ?hz ?_; (case e => walk_at "mine eq"); (case hz => walk_at "mine le"); intro _ _ _ _ _)))
-- F1
section
variable {w : World} {A : Around} {s : Shared}
theorem all_ascii {x : PySem.Str} (h : ∀ c ∈ x.cps.toList, c < 128) : Txt.isascii x = true := by
  show x.cps.all (· < 128) = true
  rw [Array.all_eq_true_iff_forall_mem]
  intro c hc
  exact decide_eq_true (h c (Array.mem_toList_iff.mpr hc))
theorem ascii_buffer_spec (B : Bas w s.heap) (H : Room A 1) (x : PySem.Str) (t : Tok) (hx : ∀ c ∈ x.cps.toList, c < 128) (hl : x.length ≤ 1000) :
    codeAny (model PySem.Challenge.pw_bk5003_01 w) A (.call (.ref 218) ⟨[.str x t], []⟩) (Ret s fun v _ => ∃ t, v = .bytes (RE.asciiL x.cps.toList).toArray t) s := by
  obtain ⟨X, p, loose, mean, mg, mb, T⟩ := B
  (k_dflt (refine' enter (binds := [(PySem.Str.ofString "data", .str x t)]) ?k1 ?k2 ?k6 ?k7 ?k8 ?k9 ?kB ?_ ?c2 ?c3 ?c4 ?c5; (case k1 => k_asm); (case k2 => exact Top.nolimit (by assumption)); (case k6 => k_is); (case k7 => k_is); (case k8 => first | exact Nat.lt_of_le_of_lt (Nat.le_add_right _ _) (Room.hd (by assumption)) | (have hR9 := Room.hd (by assumption); omega)); (case k9 => first | exact hb9 _ _ _ _ (by k_is) | exact BindsTo.of_eq rfl | exact binds_K (by k_in) rfl (by k_is) rfl rfl rfl); (case c5 => decide); (case kB => exact locs rfl); (case c2 => exact rfl); (case c3 => exact rfl); (case c4 => exact rfl)); intro L' h' F' N'; (try dsimp only); (try k_fold))
  walk_at "mine go"
  · (exact ⟨_, _, _, [], rfl, rfl, Fr.keep (by assumption), (fun _ h => nomatch h), _, rfl⟩)
  · exact absurd ((all_ascii hx).symm.trans (by assumption)) (by decide)
theorem buffer_spec (B : Bas w s.heap) (H : Room A 1) (x : Array UInt8) (t : Tok) :
    codeAny (model PySem.Challenge.pw_bk5003_01 w) A (.call (.ref 225) ⟨[.bytes x t], []⟩) (Ret s fun v _ => v = .bytes x t) s := by
  obtain ⟨X, p, loose, mean, mg, mb, T⟩ := B
  (k_dflt (refine' enter (binds := [(PySem.Str.ofString "data", .bytes x t)]) ?k1 ?k2 ?k6 ?k7 ?k8 ?k9 ?kB ?_ ?c2 ?c3 ?c4 ?c5; (case k1 => k_asm); (case k2 => exact Top.nolimit (by assumption)); (case k6 => k_is); (case k7 => k_is); (case k8 => first | exact Nat.lt_of_le_of_lt (Nat.le_add_right _ _) (Room.hd (by assumption)) | (have hR9 := Room.hd (by assumption); omega)); (case k9 => first | exact hb9 _ _ _ _ (by k_is) | exact BindsTo.of_eq rfl | exact binds_K (by k_in) rfl (by k_is) rfl rfl rfl); (case c5 => decide); (case kB => exact locs rfl); (case c2 => exact rfl); (case c3 => exact rfl); (case c4 => exact rfl)); intro L' h' F' N'; (try dsimp only); (try k_fold))
  walk_at "mine go"
  · (exact ⟨_, _, _, [], rfl, rfl, Fr.keep (by assumption), (fun _ h => nomatch h), rfl⟩)
local macro_rules | `(tactic| walk_at "call ref") => `(tactic| k_dflt ((k_here; k_dflt (refine' use_spec0 ?F ?N (ascii_buffer_spec ?B ?H _ _ ?ha ?hz) ?_; (case F => k_asm); (case N => k_asm); (case B => walk_at "mine bas"); (case H => walk_at "mine room"); (case ha => walk_at "mine side"); (case hz => walk_at "mine side")); intro v' h' tk' own' F' N' pv'; k_sweep; (obtain ⟨t', e'⟩ := pv'; subst e'); (try dsimp only); (try k_fold))))

local macro_rules | `(tactic| walk_at "call ref") => `(tactic| k_dflt ((k_here; k_dflt (refine' use_spec0 ?F ?N (buffer_spec ?B ?H _ _) ?_; (case F => k_asm); (case N => k_asm); (case B => walk_at "mine bas"); (case H => walk_at "mine room")); intro v' h' tk' own' F' N' pv'; k_sweep; subst pv'; (try dsimp only); (try k_fold))))

theorem hexL_lt (l : List UInt8) : ∀ c ∈ RB.hexL l, c < 128 := by
  intro c hc
  induction l with
  | nil => cases hc
  | cons b r ih =>
    have h1 : ∀ d : Nat, d < 16 → Builtin.Bytes.hexDigit d < 128 := by decide
    have hb := UInt8.toNat_lt b
    simp only [RB.hexL, List.mem_cons] at hc
    rcases hc with rfl | rfl | hc
    · exact h1 _ (by omega)
    · exact h1 _ (by omega)
    · exact ih hc
theorem b2a_spec (B : Bas w s.heap) (H : Room A 3) (x : Array UInt8) (t : Tok) (hl : x.size ≤ 450) :
    codeAny (model PySem.Challenge.pw_bk5003_01 w) A (.call (.ref 234) ⟨[.bytes x t], []⟩) (Ret s fun v _ => ∃ t, v = .bytes (RE.asciiL (RB.hexL x.toList)).toArray t) s := by
  have h1 : ∀ c ∈ (PySem.Str.mk (RB.hexL x.toList).toArray).cps.toList, c < 128 := by simpa using hexL_lt x.toList
  have h2 : (PySem.Str.mk (RB.hexL x.toList).toArray).length ≤ 1000 := by
    show (RB.hexL x.toList).toArray.size ≤ 1000
    rw [List.size_toArray, RB.hexL_length, Array.length_toList]; omega
  obtain ⟨X, p, loose, mean, mg, mb, T⟩ := B
  (k_dflt (refine' enter (binds := [(PySem.Str.ofString "data", .bytes x t), (PySem.Str.ofString "sep", .ref 226), (PySem.Str.ofString "bytes_per_sep", .int 1 685)]) ?k1 ?k2 ?k6 ?k7 ?k8 ?k9 ?kB ?_ ?c2 ?c3 ?c4 ?c5; (case k1 => k_asm); (case k2 => exact Top.nolimit (by assumption)); (case k6 => k_is); (case k7 => k_is); (case k8 => first | exact Nat.lt_of_le_of_lt (Nat.le_add_right _ _) (Room.hd (by assumption)) | (have hR9 := Room.hd (by assumption); omega)); (case k9 => first | exact hb9 _ _ _ _ (by k_is) | exact BindsTo.of_eq rfl | exact binds_K (by k_in) rfl (by k_is) rfl rfl rfl); (case c5 => decide); (case kB => exact locs rfl); (case c2 => exact rfl); (case c3 => exact rfl); (case c4 => exact rfl)); intro L' h' F' N'; (try dsimp only); (try k_fold))
  walk_at "mine go"
  (exact ⟨_, _, _, [], rfl, rfl, Fr.keep (by assumption), (fun _ h => nomatch h), _, rfl⟩)
/-- a hex sign's worth -/
def hexV (c : Int) : Int := if 48 ≤ c ∧ c ≤ 57 then c - 48 else if 65 ≤ c ∧ c ≤ 70 then c - 55 else if 97 ≤ c ∧ c ≤ 102 then c - 87 else 16
theorem hexv_spec (B : Bas w s.heap) (H : Room A 1) (c : Int) (t : Tok) :
   codeAny (model PySem.Challenge.pw_bk5003_01 w) A (.call (.ref 241) ⟨[.int c t], []⟩) (Ret s fun v _ => ∃ t, v = .int (hexV c) t) s := by
  obtain ⟨X, p, loose, mean, mg, mb, T⟩ := B
  (k_dflt (refine' enter (binds := [(PySem.Str.ofString "c", .int c t)]) ?k1 ?k2 ?k6 ?k7 ?k8 ?k9 ?kB ?_ ?c2 ?c3 ?c4 ?c5; (case k1 => k_asm); (case k2 => exact Top.nolimit (by assumption)); (case k6 => k_is); (case k7 => k_is); (case k8 => first | exact Nat.lt_of_le_of_lt (Nat.le_add_right _ _) (Room.hd (by assumption)) | (have hR9 := Room.hd (by assumption); omega)); (case k9 => first | exact hb9 _ _ _ _ (by k_is) | exact BindsTo.of_eq rfl | exact binds_K (by k_in) rfl (by k_is) rfl rfl rfl); (case c5 => decide); (case kB => exact locs rfl); (case c2 => exact rfl); (case c3 => exact rfl); (case c4 => exact rfl)); intro L' h' F' N'; (try dsimp only); (try k_fold))
  walk_at "mine go"
  all_goals (refine ⟨_, _, _, [], rfl, rfl, Fr.keep (by assumption), (fun _ h => nomatch h), _, val_int ?_⟩; unfold hexV; first | (rw [if_pos (by omega)]) | (rw [if_neg (by omega), if_pos (by omega)]) | (rw [if_neg (by omega), if_neg (by omega), if_pos (by omega)]) | (rw [if_neg (by omega), if_neg (by omega), if_neg (by omega)]))
local macro_rules | `(tactic| walk_at "call ref") => `(tactic| k_dflt ((k_here; k_dflt (refine' use_spec0 ?F ?N (b2a_spec ?B ?H _ _ ?hz) ?_; (case F => k_asm); (case N => k_asm); (case B => walk_at "mine bas"); (case H => walk_at "mine room"); (case hz => walk_at "mine side")); intro v' h' tk' own' F' N' pv'; k_sweep; (obtain ⟨t', e'⟩ := pv'; subst e'); (try dsimp only); (try k_fold))))

local macro_rules | `(tactic| walk_at "call ref") => `(tactic| k_dflt ((k_here; k_dflt (refine' use_spec0 ?F ?N (hexv_spec ?B ?H _ _) ?_; (case F => k_asm); (case N => k_asm); (case B => walk_at "mine bas"); (case H => walk_at "mine room")); intro v' h' tk' own' F' N' pv'; k_sweep; (obtain ⟨t', e'⟩ := pv'; subst e'); (try dsimp only); (try k_fold))))

theorem hexL_get (bs : List UInt8) : ∀ k, k < bs.length → (RB.hexL bs)[2 * k]? = some (Builtin.Bytes.hexDigit ((bs[k]?.getD 0).toNat / 16)) ∧ (RB.hexL bs)[2 * k + 1]? = some (Builtin.Bytes.hexDigit ((bs[k]?.getD 0).toNat % 16)) := by
  induction bs with
  | nil => intro k h; exact absurd h (Nat.not_lt_zero _)
  | cons b r ih =>
    intro k h
    cases k with
    | zero => exact ⟨rfl, rfl⟩
    | succ k =>
      have := ih k (by simpa using h)
      rw [show 2 * (k + 1) = 2 * k + 2 by omega]
      simpa [RB.hexL] using this
theorem hexV_digit : ∀ d : Nat, d < 16 → hexV ((Builtin.Bytes.hexDigit d : Nat) : Int) = d := by decide
theorem a2b_spec (B : Bas w s.heap) (H : Room A 3) (bs : List UInt8) (t : Tok) (hl : bs.length ≤ 450) :
    codeAny (model PySem.Challenge.pw_bk5003_01 w) A (.call (.ref 248) ⟨[.str ⟨(RB.hexL bs).toArray⟩ t], []⟩) (Ret s fun v _ => ∃ t, v = .bytes bs.toArray t) s := by
  have h1 : ∀ c ∈ (PySem.Str.mk (RB.hexL bs).toArray).cps.toList, c < 128 := by simpa using hexL_lt bs
  have h2 : (PySem.Str.mk (RB.hexL bs).toArray).length ≤ 1000 := by
    show (RB.hexL bs).toArray.size ≤ 1000
    rw [List.size_toArray, RB.hexL_length]; omega
  have h3 : (RE.asciiL (RB.hexL bs)).length = 2 * bs.length := by
    show (List.map _ _).length = _
    rw [List.length_map, RB.hexL_length]
  obtain ⟨X, p, loose, mean, mg, mb, T⟩ := B
  have e0 : (((RE.asciiL (RB.hexL bs)).toArray.size : Nat) : Int).fmod 2 = 0 := by
    rw [List.size_toArray, h3, Int.natCast_mul, show ((2 : Nat) : Int) = 2 from rfl, Int.fmod_eq_emod_of_nonneg _ (by decide)]; omega
  (k_dflt (refine' enter (binds := [(PySem.Str.ofString "hexstr", .str ⟨(RB.hexL bs).toArray⟩ t)]) ?k1 ?k2 ?k6 ?k7 ?k8 ?k9 ?kB ?_ ?c2 ?c3 ?c4 ?c5; (case k1 => k_asm); (case k2 => exact Top.nolimit (by assumption)); (case k6 => k_is); (case k7 => k_is); (case k8 => first | exact Nat.lt_of_le_of_lt (Nat.le_add_right _ _) (Room.hd (by assumption)) | (have hR9 := Room.hd (by assumption); omega)); (case k9 => first | exact hb9 _ _ _ _ (by k_is) | exact BindsTo.of_eq rfl | exact binds_K (by k_in) rfl (by k_is) rfl rfl rfl); (case c5 => decide); (case kB => exact locs rfl); (case c2 => exact rfl); (case c3 => exact rfl); (case c4 => exact rfl)); intro L' h' F' N'; (try dsimp only); (try k_fold))
  walk_at "mine go"
  · exact absurd e0 (by assumption)
  · (rename Fr _ _ _ _ => kF); (rename News _ _ _ _ => kN)
    refine while_J rfl (fun k m news => ∃ j a, j + k = bs.length ∧ MI m (PySem.Str.ofString "i") ((2 * j : Nat) : Int) ∧ MB m (PySem.Str.ofString "argbuf") (RE.asciiL (RB.hexL bs)).toArray ∧
      MI m (PySem.Str.ofString "arglen") ((2 * bs.length : Nat) : Int) ∧ MR m (PySem.Str.ofString "out") a ∧ ∃ vs nn, news = [(a, listOf (List.toArray vs) nn)] ∧ IntsAre vs ((bs.take j).map fun b => (b.toNat : Int))) bs.length kF kN ?_ ?_
    · exact ⟨0, _, by omega, ⟨_, rfl⟩, ⟨_, rfl⟩, MI.of rfl (by rw [← h3]; rfl), rfl, [], 0, rfl, .nil⟩
    · clear kF kN
      rintro k m news h tk ⟨j, a, hj, ⟨ti, m1⟩, ⟨ta, m2⟩, ⟨tl, m3⟩, m4, vs, nn, rfl, hv⟩ kF kN
      (try k_fold)
      have hvl := hv.length
      rw [List.length_map, List.length_take] at hvl
      rcases Nat.lt_or_ge j bs.length with hlt | hge
      · have hb := UInt8.toNat_lt (bs[j]?.getD 0)
        have gd : ∀ i c : Nat, (RB.hexL bs)[i]? = some c → c < 128 → ((((RE.asciiL (RB.hexL bs)).getD i 0).toNat : Nat) : Int) = (c : Int) := by
          intro i c hc h8
          show (((List.map (fun x : Nat => x.toUInt8) (RB.hexL bs)).getD i 0).toNat : Int) = c
          rw [List.getD_eq_getElem?_getD, List.getElem?_map, hc]
          show ((c.toUInt8.toNat : Nat) : Int) = c
          have : c.toUInt8.toNat = c := by show (UInt8.ofNat c).toNat = c; rw [UInt8.toNat_ofNat']; omega
          rw [this]
        have hx := hexL_get bs j hlt
        have h128 : ∀ d : Nat, d < 16 → Builtin.Bytes.hexDigit d < 128 := by decide
        have e1 : hexV ((((RE.asciiL (RB.hexL bs)).getD (((2 * j : Nat) : Int)).toNat 0).toNat : Nat) : Int) = (((bs[j]?.getD 0).toNat / 16 : Nat) : Int) := by
          rw [Int.toNat_natCast, gd _ _ hx.1 (h128 _ (by omega)), hexV_digit _ (by omega)]
        have e2 : hexV ((((RE.asciiL (RB.hexL bs)).getD (((2 * j : Nat) : Int) + 1).toNat 0).toNat : Nat) : Int) = (((bs[j]?.getD 0).toNat % 16 : Nat) : Int) := by
          rw [show (((2 * j : Nat) : Int) + 1).toNat = 2 * j + 1 by omega, gd _ _ hx.2 (h128 _ (by omega)), hexV_digit _ (by omega)]
        walk_at "mine go"
        (rename Fr _ _ _ _ => kF); (rename News _ _ _ _ => kN)
        simp only [List.push_toArray] at kN
        refine Turn.mk' kF kN ?_
        refine ⟨k - 1, by omega, j + 1, a, by omega, MI.of (by walk_at "mine look") (by omega), ⟨_, by walk_at "mine look"⟩, ⟨_, by walk_at "mine look"⟩, by walk_at "mine look", vs ++ [_], _, rfl, ints_snoc hv ?_⟩
        rw [e1, e2, List.take_add_one, List.map_append, List.getElem?_eq_getElem hlt]
        refine congrArg _ ?_
        show [_] = [_]
        refine congrArg (fun z => [z]) ?_
        show (((bs[j]).toNat / 16 : Nat) : Int) * 2 ^ 4 + (((bs[j]).toNat % 16 : Nat) : Int) = ((bs[j]).toNat : Int)
        omega
      · have hr : ∀ n ∈ (bs.take j).map fun b => (b.toNat : Int), 0 ≤ n ∧ n < 256 := by
          intro n hn
          obtain ⟨b, _, rfl⟩ := List.mem_map.mp hn
          have := UInt8.toNat_lt b
          omega
        walk_at "mine go"
        refine ⟨_, _, _, [], rfl, rfl, Fr.keep (by assumption), (fun _ h => nomatch h), _, val_bytes ?_⟩
        refine congrArg List.toArray ?_
        rw [List.map_map, List.take_of_length_le hge]
        conv => rhs; rw [← List.map_id bs]
        refine List.map_congr_left fun b _ => ?_
        show UInt8.ofNat ((b.toNat : Int).toNat) = b
        rw [Int.toNat_natCast, UInt8.ofNat_toNat]
end
local macro_rules | `(tactic| walk_at "call ref") => `(tactic| k_dflt ((k_here; k_dflt (refine' use_spec0 ?F ?N (ascii_buffer_spec ?B ?H _ _ ?ha ?hz) ?_; (case F => k_asm); (case N => k_asm); (case B => walk_at "mine bas"); (case H => walk_at "mine room"); (case ha => walk_at "mine side"); (case hz => walk_at "mine side")); intro v' h' tk' own' F' N' pv'; k_sweep; (obtain ⟨t', e'⟩ := pv'; subst e'); (try dsimp only); (try k_fold))))

local macro_rules | `(tactic| walk_at "call ref") => `(tactic| k_dflt ((k_here; k_dflt (refine' use_spec0 ?F ?N (buffer_spec ?B ?H _ _) ?_; (case F => k_asm); (case N => k_asm); (case B => walk_at "mine bas"); (case H => walk_at "mine room")); intro v' h' tk' own' F' N' pv'; k_sweep; subst pv'; (try dsimp only); (try k_fold))))

local macro_rules | `(tactic| walk_at "call ref") => `(tactic| k_dflt ((k_here; k_dflt (refine' use_spec0 ?F ?N (b2a_spec ?B ?H _ _ ?hz) ?_; (case F => k_asm); (case N => k_asm); (case B => walk_at "mine bas"); (case H => walk_at "mine room"); (case hz => walk_at "mine side")); intro v' h' tk' own' F' N' pv'; k_sweep; (obtain ⟨t', e'⟩ := pv'; subst e'); (try dsimp only); (try k_fold))))

local macro_rules | `(tactic| walk_at "call ref") => `(tactic| k_dflt ((k_here; k_dflt (refine' use_spec0 ?F ?N (hexv_spec ?B ?H _ _) ?_; (case F => k_asm); (case N => k_asm); (case B => walk_at "mine bas"); (case H => walk_at "mine room")); intro v' h' tk' own' F' N' pv'; k_sweep; (obtain ⟨t', e'⟩ := pv'; subst e'); (try dsimp only); (try k_fold))))

local macro_rules | `(tactic| walk_at "call ref") => `(tactic| k_dflt ((k_here; k_dflt (refine' use_spec0 ?F ?N (a2b_spec ?B ?H _ _ ?hz) ?_; (case F => k_asm); (case N => k_asm); (case B => walk_at "mine bas"); (case H => walk_at "mine room"); (case hz => walk_at "mine side")); intro v' h' tk' own' F' N' pv'; k_sweep; (obtain ⟨t', e'⟩ := pv'; subst e'); (try dsimp only); (try k_fold))))

-- X4
section
namespace SR
open PySem.Builtin PySem.Builtin.Re PySem.Sre PySem.Sre.M
theorem slot : Slot "re.Pattern" "findall" "re.Pattern.findall" :=
  .of (owner := "re.Pattern") (n := "findall") (by rw [typeLookup_type, builtinLookup_eq_fast]; kernel_rfl) (by decide +kernel) (by decide +kernel) (by decide +kernel)
    (by first | exact .inl (by decide +kernel) | exact .inr (by decide +kernel)) (by rw [isSubtype_type]; kernel_rfl)
theorem entry : entryFor table "re.Pattern.findall" = some Builtin.«re.Pattern.findall» := by first | exact entryFor_of_tree (by kernel_rfl) | exact entryFor_of_fast (by kernel_rfl)
theorem args (a b : Value) : argsOk "re.Pattern.findall" ⟨[a, b], []⟩ := by unfold argsOk; kernel_rfl
abbrev tgt (x : PySem.Str) (t : PySem.Tok) : ReTarget := { pattern := .ref 64, string := .str x t, code := code, text := x.cps, kind := 0, groups := 4, pos := min 0 x.cps.size, lim := min 9223372036854775807 x.cps.size }
theorem target (P : Params) (x : PySem.Str) (t : PySem.Tok) (S : Setting) : peek (Mine.hd.heap_39 P) S (reTarget "re.Pattern.findall" "findall" ⟨[.ref 64, .str x t], []⟩) = some (tgt x t) := by kernel_rfl
section
variable {M : Model} {A : Around} {E : Value → Shared → Prop} {s : Shared}
theorem drive_go {T : Nat} {a b : Sre.M} {Q : Sre.M → Shared → Prop} (hT : 1 ≤ T) (h : runFor 4 a = b) (hb : b.outcome = none) (k : wpAny M A (reDrive (T - 1) b) Q E s) : wpAny M A (reDrive T a) Q E s := by
  obtain ⟨T', rfl⟩ : ∃ T', T = T' + 1 := ⟨T - 1, by omega⟩
  show wpAny M A (if (runFor 4 a).outcome.isSome = true then pure (runFor 4 a) else rule "sre.turn" >>= fun _ => reDrive T' (runFor 4 a)) Q E s
  rw [h, hb]
  exact wpAny_bind (wpAny_rule k)
theorem drive_end {T : Nat} {a b : Sre.M} {o : Sre.Outcome} {Q : Sre.M → Shared → Prop} (hT : 1 ≤ T) (h : runFor 4 a = b) (hb : b.outcome = some o) (k : Q b s) : wpAny M A (reDrive T a) Q E s := by
  obtain ⟨T', rfl⟩ : ∃ T', T = T' + 1 := ⟨T - 1, by omega⟩
  show wpAny M A (if (runFor 4 a).outcome.isSome = true then pure (runFor 4 a) else rule "sre.turn" >>= fun _ => reDrive T' (runFor 4 a)) Q E s
  rw [h, hb]
  exact wpAny_pure k
theorem for_inv {β : Type} {f : Nat → β → Sem (ForInStep β)} (I : Nat → β → Shared → Prop) (n : Nat) (h : ∀ i k b s, k < n → I k b s → wpAny M A (f i b) (fun r s' => ∃ b', r = .yield b' ∧ I (k + 1) b' s') E s) :
    ∀ (l : List Nat) (k : Nat) (b : β) (s : Shared), k + l.length = n → I k b s → wpAny M A (forIn l b f) (fun b' s' => I n b' s') E s
  | [], k, b, s, hk, hI => by
    rw [List.forIn_nil]
    have : k = n := by simpa using hk
    subst this
    exact wpAny_pure hI
  | i :: r, k, b, s, hk, hI => by
    rw [List.forIn_cons]
    refine wpAny_bind (wpAny_mono (h i k b s (by simp only [List.length_cons] at hk; omega) hI) (fun z s' hz => ?_) fun _ _ y => y)
    obtain ⟨b', rfl, hI'⟩ := hz
    exact for_inv I n h r (k + 1) b' s' (by simp only [List.length_cons] at hk; omega) hI'
theorem seen_loop {m : Sre.M} {Q : PUnit → Shared → Prop} (h : Q ⟨⟩ s) : ∀ l : List Nat, wpAny M A (forIn l PUnit.unit fun i _ => if m.seen.has i = true then (do rule (Sre.names.getD i ""); pure (ForInStep.yield PUnit.unit)) else pure (ForInStep.yield PUnit.unit)) Q E s
  | [] => by rw [List.forIn_nil]; exact wpAny_pure h
  | i :: r => by
    rw [List.forIn_cons]
    refine wpAny_bind ?_
    split
    · exact wpAny_bind (wpAny_rule (wpAny_pure (seen_loop h r)))
    · exact wpAny_pure (seen_loop h r)
theorem run_end {m b : Sre.M} {o : Sre.Outcome} {Q : Option Sre.M → Shared → Prop} (h : wpAny M A (reDrive (2 ^ 64) m) (fun x s' => x = b ∧ s' = s) E s) (hb : b.outcome = some o) (ho : o = .matched ∨ o = .failed)
    (k : Q (match o with | .matched => some b | _ => none) s) : wpAny M A (reRunToEnd m) Q E s := by
  unfold reRunToEnd
  refine wpAny_bind (wpAny_mono h (fun x s' hx => ?_) fun _ _ y => y)
  obtain ⟨rfl, rfl⟩ := hx
  refine wpAny_bind (seen_loop ?_ _)
  rw [hb]
  rcases ho with rfl | rfl
  · exact wpAny_pure k
  · exact wpAny_pure k
theorem found {X : Array Nat} {p n1 nd ns : Nat} (K : Tok X p n1 nd ns) (hbig : X.size < 4294967295) {Q : Option Sre.M → Shared → Prop}
    (k : ∀ m : Sre.M, m.start = p → m.handed = p + n1 + 1 + nd + ns → m.lastmark = 7 → m.marks = #[some p, some (p + n1), some (p + n1), some (p + n1 + 1), some (p + n1 + 1), some (p + n1 + 1 + nd), some (p + n1 + 1 + nd), some (p + n1 + 1 + nd + ns)] → Q (some m) s) :
    wpAny M A (reRunToEnd (forSearch code X 4 p X.size false)) Q E s := by
  obtain ⟨m4, m8, m12, m16, m18, r1, o1, r2, o2, r3, o3, r4, o4, r5, o5, f1, f2, f3, f4⟩ := token K hbig
  refine run_end (b := m18) ?_ o5 (.inl rfl) (k m18 f1 f2 f3 f4)
  exact drive_go (Nat.le_of_ble_eq_true rfl) r1 o1 (drive_go (Nat.le_of_ble_eq_true rfl) r2 o2 (drive_go (Nat.le_of_ble_eq_true rfl) r3 o3 (drive_go (Nat.le_of_ble_eq_true rfl) r4 o4 (drive_end (Nat.le_of_ble_eq_true rfl) r5 o5 ⟨rfl, rfl⟩))))
theorem notfound {X : Array Nat} {Q : Option Sre.M → Shared → Prop} (k : Q none s) : wpAny M A (reRunToEnd (forSearch code X 4 X.size X.size false)) Q E s := by
  have h0 : ∃ b, runFor 4 (forSearch code X 4 X.size X.size false) = b ∧ b.outcome = some .failed := by
    refine ⟨_, rfl, ?_⟩
    unfold forSearch
    have c1 : (decide (X.size > X.size) || decide (X.size - X.size < 2)) = true := by
      rw [Bool.or_eq_true, decide_eq_true_eq, decide_eq_true_eq]; omega
    show (runFor 4 (if (decide (X.size > X.size) || decide (X.size - X.size < 2)) = true then _ else _)).outcome = _
    rw [c1]
    rfl
  obtain ⟨b, r, o⟩ := h0
  exact run_end (b := b) (drive_end (Nat.le_of_ble_eq_true rfl) r o ⟨rfl, rfl⟩) o (.inr rfl) k
theorem mkStr_of {z : PySem.Str} {Q : Value → Shared → Prop} (hz : z.length ≤ sizeLine) (k : Q (.str z s.toks) { s with toks := s.toks + 1 }) : wpAny M A (mkStr z) Q E s := wpAny_mkStr k hz
end
/-- a tuple of the four pieces -/
def tupOf (t : Tk) (t1 t2 t3 t4 : PySem.Tok) : Obj := { cls := .type "tuple", data := .seq #[.str (RS.tx t.p) t1, .str (RS.tx [t.c]) t2, .str (RS.tx t.ds) t3, .str (RS.tx t.ss) t4] }
def OwnT : List Tk → List Addr → List (Addr × Obj) → Prop
  | [], [], own => own = []
  | t :: r, a :: rs, own => ∃ t1 t2 t3 t4 own', own = (a, tupOf t t1 t2 t3 t4) :: own' ∧ OwnT r rs own'
  | _, _, _ => False
theorem OwnT.snoc : ∀ {l : List Tk} {rs : List Addr} {own : List (Addr × Obj)} {t : Tk} {a : Addr} (_ : OwnT l rs own) (t1 t2 t3 t4 : PySem.Tok), OwnT (l ++ [t]) (rs ++ [a]) (own ++ [(a, tupOf t t1 t2 t3 t4)])
  | [], [], own, t, a, h, t1, t2, t3, t4 => ⟨t1, t2, t3, t4, [], by rw [show own = [] from h]; rfl, rfl⟩
  | _ :: _, _ :: _, _, t, a, ⟨u1, u2, u3, u4, own', e, h⟩, t1, t2, t3, t4 => ⟨u1, u2, u3, u4, own' ++ [(a, tupOf t t1 t2 t3 t4)], by rw [e]; rfl, h.snoc t1 t2 t3 t4⟩
theorem OwnT.get : ∀ {l : List Tk} {rs : List Addr} {own : List (Addr × Obj)} {i : Nat} {a : Addr} {u : Tk} (_ : OwnT l rs own), rs[i]? = some a → l[i]? = some u → ∃ t1 t2 t3 t4, (a, tupOf u t1 t2 t3 t4) ∈ own
  | u :: _, a :: _, _, 0, _, _, ⟨t1, t2, t3, t4, _, e, _⟩, h1, h2 => by
    cases h1; cases h2
    exact ⟨t1, t2, t3, t4, e ▸ .head _⟩
  | _ :: _, _ :: _, _, i + 1, _, _, ⟨_, _, _, _, _, e, h⟩, h1, h2 => by
    obtain ⟨t1, t2, t3, t4, hm⟩ := h.get (i := i) h1 h2
    exact ⟨t1, t2, t3, t4, e ▸ .tail _ hm⟩
end SR
end
-- X5
section
namespace SR
open PySem.Builtin PySem.Builtin.Re PySem.Sre PySem.Sre.M
section
variable {M : Model} {A : Around} {E : Value → Shared → Prop} {s : Shared}
theorem group {T : ReTarget} {m : Sre.M} {g b e : Nat} {z : List Nat} {e0 : Sem Value} {Q : Value → Shared → Prop} (hl : m.lastmark = 7) (hg : g < 4) (hb : m.marks.getD (2 * g) none = some b) (he : m.marks.getD (2 * g + 1) none = some e) (hbe : b ≤ e) (hk : T.kind = 0)
    (hz : T.text.extract b e = z.toArray) (hs : z.length ≤ 1000) (k : Q (.str (RS.tx z) s.toks) { s with toks := s.toks + 1 }) : wpAny M A (reMachineGroup T m (g + 1) e0) Q E s := by
  unfold reMachineGroup
  rw [hl, Nat.add_sub_cancel, if_neg (by omega), hb, he]
  show wpAny M A (if e < b then _ else _) Q E s
  rw [if_neg (by omega)]
  unfold reSlice
  rw [hk, hz]
  exact wpAny_mkStr k (by rw [RS.tx_len, sizeLine_eq]; omega)
theorem groups {T : ReTarget} {m : Sre.M} {p n1 nd ns : Nat} {z1 z3 z4 : List Nat} {c : Nat} {e0 : Sem Value} {Q : List Value → Shared → Prop} (hl : m.lastmark = 7)
    (hm : m.marks = #[some p, some (p + n1), some (p + n1), some (p + n1 + 1), some (p + n1 + 1), some (p + n1 + 1 + nd), some (p + n1 + 1 + nd), some (p + n1 + 1 + nd + ns)]) (hk : T.kind = 0)
    (h1 : T.text.extract p (p + n1) = z1.toArray) (h2 : T.text.extract (p + n1) (p + n1 + 1) = [c].toArray) (h3 : T.text.extract (p + n1 + 1) (p + n1 + 1 + nd) = z3.toArray) (h4 : T.text.extract (p + n1 + 1 + nd) (p + n1 + 1 + nd + ns) = z4.toArray)
    (l1 : z1.length ≤ 1000) (l3 : z3.length ≤ 1000) (l4 : z4.length ≤ 1000)
    (k : ∀ t1 t2 t3 t4 tk, Q [.str (RS.tx z1) t1, .str (RS.tx [c]) t2, .str (RS.tx z3) t3, .str (RS.tx z4) t4] { s with toks := tk }) :
    wpAny M A (List.mapM (fun g => reMachineGroup T m (g + 1) e0) (List.range 4)) Q E s := by
  show wpAny M A (reMachineGroup T m (0 + 1) e0 >>= fun v1 => reMachineGroup T m (1 + 1) e0 >>= fun v2 => reMachineGroup T m (2 + 1) e0 >>= fun v3 => reMachineGroup T m (3 + 1) e0 >>= fun v4 => pure [v1, v2, v3, v4]) Q E s
  refine wpAny_bind (group hl (by decide) (by rw [hm]; rfl) (by rw [hm]; rfl) (by omega) hk h1 l1 ?_)
  refine wpAny_bind (group hl (by decide) (by rw [hm]; rfl) (by rw [hm]; rfl) (by omega) hk h2 (by show 1 ≤ 1000; decide) ?_)
  refine wpAny_bind (group hl (by decide) (by rw [hm]; rfl) (by rw [hm]; rfl) (by omega) hk h3 l3 ?_)
  refine wpAny_bind (group hl (by decide) (by rw [hm]; rfl) (by rw [hm]; rfl) (by omega) hk h4 l4 ?_)
  exact wpAny_pure (k _ _ _ _ _)
end
theorem txs_take_succ {tks : List Tk} {k : Nat} {t : Tk} (h : tks[k]? = some t) : txs (tks.take (k + 1)) = txs (tks.take k) ++ t.tx := by
  unfold txs
  rw [List.take_add_one, h, List.flatMap_append]
  simp
theorem txs_split {tks : List Tk} {k : Nat} {t : Tk} (h : tks[k]? = some t) : txs tks = txs (tks.take k) ++ (t.tx ++ txs (tks.drop (k + 1))) := by
  have h2 : tks = tks.take (k + 1) ++ tks.drop (k + 1) := (List.take_append_drop _ _).symm
  conv => lhs; rw [h2]
  unfold txs
  rw [List.flatMap_append]
  show txs _ ++ _ = _
  rw [txs_take_succ h, List.append_assoc]; rfl
theorem cuts {pre : List Nat} {t : Tk} {post : List Nat} {X : Array Nat} (hX : X = (pre ++ (t.tx ++ post)).toArray) :
    X.extract pre.length (pre.length + t.p.length) = t.p.toArray ∧ X.extract (pre.length + t.p.length) (pre.length + t.p.length + 1) = [t.c].toArray ∧
    X.extract (pre.length + t.p.length + 1) (pre.length + t.p.length + 1 + t.ds.length) = t.ds.toArray ∧ X.extract (pre.length + t.p.length + 1 + t.ds.length) (pre.length + t.p.length + 1 + t.ds.length + t.ss.length) = t.ss.toArray := by
  subst hX
  refine ⟨?_, ?_, ?_, ?_⟩
  · have := cut pre t.p (t.c :: (t.ds ++ (t.ss ++ post)))
    rw [show pre ++ (t.tx ++ post) = pre ++ (t.p ++ (t.c :: (t.ds ++ (t.ss ++ post)))) by unfold Tk.tx; simp]
    exact this
  · have := cut (pre ++ t.p) [t.c] (t.ds ++ (t.ss ++ post))
    rw [show pre ++ (t.tx ++ post) = (pre ++ t.p) ++ ([t.c] ++ (t.ds ++ (t.ss ++ post))) by unfold Tk.tx; simp]
    rw [List.length_append] at this
    exact this
  · have := cut (pre ++ t.p ++ [t.c]) t.ds (t.ss ++ post)
    rw [show pre ++ (t.tx ++ post) = (pre ++ t.p ++ [t.c]) ++ (t.ds ++ (t.ss ++ post)) by unfold Tk.tx; simp]
    simp only [List.length_append, List.length_cons, List.length_nil, Nat.zero_add] at this
    exact this
  · have := cut (pre ++ t.p ++ [t.c] ++ t.ds) t.ss post
    rw [show pre ++ (t.tx ++ post) = (pre ++ t.p ++ [t.c] ++ t.ds) ++ (t.ss ++ post) by unfold Tk.tx; simp]
    simp only [List.length_append, List.length_cons, List.length_nil, Nat.zero_add] at this
    exact this
theorem OwnT.len : ∀ {l : List Tk} {rs : List Addr} {own : List (Addr × Obj)}, OwnT l rs own → rs.length = l.length
  | [], [], _, _ => rfl
  | _ :: _, _ :: _, _, ⟨_, _, _, _, _, _, h⟩ => congrArg (· + 1) h.len
/-- what stands after k turns -/
def Inv (s : Shared) (tks : List Tk) (k : Nat) (b : Array Value × Nat × Bool × Bool) (s' : Shared) : Prop :=
  ∃ rs own h' tk', s' = { s with heap := h', toks := tk' } ∧ Ext s.heap h' ∧ OwnT (tks.take k) rs own ∧ (∀ p ∈ own, h'.get? p.1 = some p.2 ∧ s.heap.objs.size ≤ p.1) ∧
    s.heap.objs.size ≤ h'.objs.size ∧ b = ((rs.map Value.ref).toArray, (txs (tks.take k)).length, false, decide (tks.length < k))
variable {w : World} {A : Around} {E : Value → Shared → Prop} {s : Shared} {x : PySem.Str} {t : PySem.Tok}
theorem findall_body (X : (Mine.hd.heap_39 w.params).In s.heap) (tks : List Tk) (hok : ∀ u ∈ tks, u.Ok) (hx : x = RS.tx (txs tks)) (hsz : (txs tks).length ≤ 1000) {P : Fin → Shared → Prop}
    (k : ∀ D rs own h' tk' nn, Ext s.heap h' → OwnT tks rs own → (∀ p ∈ own, h'.get? p.1 = some p.2 ∧ s.heap.objs.size ≤ p.1) → h'.get? D = some (listOf (rs.map Value.ref).toArray nn) → s.heap.objs.size ≤ D → (∀ p ∈ own, p.1 < D) → P (.done (.ret (.ref D))) { s with heap := h', toks := tk' }) :
    wpAny (model PySem.Challenge.pw_bk5003_01 w) A (Builtin.«re.Pattern.findall» ⟨[.ref 64, .str x t], []⟩) P E s := by
  show wpAny _ _ (reTarget "re.Pattern.findall" "findall" ⟨[.ref 64, .str x t], []⟩ >>= fun T => _) _ _ _
  refine wpAny_bind ((Looks.of_peek (M := model PySem.Challenge.pw_bk5003_01 w) X (target w.params x t _)).here ?_)
  obtain ⟨T, hT⟩ : ∃ T, T = tgt x t := ⟨_, rfl⟩
  have c1 : x.cps.size = (txs tks).length := by rw [hx]; exact List.size_toArray
  have T1 : T.text = (txs tks).toArray := by rw [hT]; show x.cps = _; rw [hx]
  have T2 : T.lim = (txs tks).toArray.size := by rw [hT]; show min 9223372036854775807 x.cps.size = _; rw [c1, List.size_toArray]; omega
  have T3 : T.kind = 0 := by rw [hT]
  have T4 : T.groups = 4 := by rw [hT]
  have T5 : T.code = code := by rw [hT]
  have T6 : T.pos = 0 := by rw [hT]; exact Nat.zero_min _
  rw [← hT]
  dsimp only
  refine wpAny_bind (wpAny_mono (for_inv (Inv s tks) (reMostMatches T) ?_ _ 0 _ s (by rw [List.length_range, Nat.zero_add]) ?_) (fun b s' hb => ?_) fun _ _ y => y)
  · rintro i k ⟨out, start, must, over⟩ s' hk ⟨rs, own, h', tk', rfl, hE, hO, hown, hsize, hb⟩
    obtain ⟨rfl, rfl, rfl, rfl⟩ : out = _ ∧ start = _ ∧ must = false ∧ over = _ := by
      injection hb with a b; injection b with b c; injection c with c d; exact ⟨a, b, c, d⟩
    dsimp only
    rcases Nat.lt_trichotomy k tks.length with hlt | rfl | hgt
    · obtain ⟨u, hu⟩ : ∃ u, tks[k]? = some u := ⟨_, List.getElem?_eq_getElem hlt⟩
      have hsp := txs_split hu
      have hpre : ∀ c ∈ txs (tks.take k), Sign c := by
        intro c hc
        obtain ⟨v, hv, hc⟩ := List.mem_flatMap.mp hc
        exact (hok v (List.mem_of_mem_take hv)).sign c hc
      have hK := tok_at (txs (tks.take k)) u (tks.drop (k + 1)) hpre (hok u (List.mem_of_getElem? hu)) (fun v hv => hok v (List.mem_of_mem_drop hv))
      rw [← hsp] at hK
      obtain ⟨g1, g2, g3, g4⟩ := cuts (t := u) (post := txs (tks.drop (k + 1))) (pre := txs (tks.take k)) (X := (txs tks).toArray) (by rw [hsp])
      have hd : decide (tks.length < k) = false := decide_eq_false (by omega)
      have hfit := hK.fits
      rw [List.size_toArray] at hfit
      rw [hd]
      show wpAny _ _ ((if (txs (tks.take k)).length > T.lim then pure none else reNextFound T (txs (tks.take k)).length false) >>= _) _ _ _
      rw [if_neg (by rw [T2, List.size_toArray]; omega)]
      unfold reNextFound
      rw [T1, T2, T4, T5]
      refine wpAny_bind (found hK (by rw [List.size_toArray]; omega) fun m f1 f2 f3 f4 => ?_)
      dsimp only
      refine wpAny_bind (groups (z1 := u.p) (c := u.c) (z3 := u.ds) (z4 := u.ss) f3 f4 T3 (by rw [T1]; exact g1) (by rw [T1]; exact g2) (by rw [T1]; exact g3) (by rw [T1]; exact g4) (by omega) (by omega) (by omega) fun t1 t2 t3 t4 tk => ?_)
      refine wpAny_bind (wpAny_newTuple ?_)
      refine wpAny_pure ⟨_, rfl, rs ++ [h'.objs.size], own ++ [(h'.objs.size, tupOf u t1 t2 t3 t4)], _, _, rfl, ?_, ?_, ?_, ?_, ?_⟩
      · exact hE.trans fun b o e => Heap.get?_push_of_some _ e
      · rw [List.take_add_one, hu]
        exact hO.snoc t1 t2 t3 t4
      · intro p hp
        rcases List.mem_append.mp hp with hp | hp
        · exact ⟨Heap.get?_push_of_some _ (hown p hp).1, (hown p hp).2⟩
        · rcases List.mem_cons.mp hp with rfl | hp
          · exact ⟨Heap.get?_push_size _ rfl, hsize⟩
          · cases hp
      · show s.heap.objs.size ≤ (Heap.push _ _).objs.size
        rw [Heap.size_push]; exact Nat.le_succ_of_le hsize
      · rw [f1, f2]
        have e1 : (tks.take (k + 1)) = tks.take k ++ [u] := by rw [List.take_add_one, hu]; rfl
        have e2 : (txs (tks.take (k + 1))).length = (txs (tks.take k)).length + u.p.length + 1 + u.ds.length + u.ss.length := by
          rw [txs_take_succ hu, List.length_append]
          unfold Tk.tx
          simp only [List.length_append, List.length_cons]; omega
        rw [e2, decide_eq_false (show ¬ tks.length < k + 1 by omega)]
        have e3 : ((txs (tks.take k)).length + u.p.length + 1 + u.ds.length + u.ss.length == (txs (tks.take k)).length) = false := beq_eq_false_iff_ne.mpr (by omega)
        rw [e3]
        simp
    · have hd : decide (tks.length < tks.length) = false := decide_eq_false (by omega)
      rw [hd]
      show wpAny _ _ ((if (txs (tks.take tks.length)).length > T.lim then pure none else reNextFound T (txs (tks.take tks.length)).length false) >>= _) _ _ _
      rw [List.take_length, if_neg (by rw [T2, List.size_toArray]; omega)]
      unfold reNextFound
      rw [T1, T2, T4, T5]
      have e0 : (txs tks).length = (txs tks).toArray.size := List.size_toArray.symm
      conv => lhs; skip
      rw [e0]
      refine wpAny_bind (notfound ?_)
      refine wpAny_pure ⟨_, rfl, rs, own, _, _, rfl, hE, ?_, hown, hsize, ?_⟩
      · rw [List.take_of_length_le (by omega)]
        rw [List.take_length] at hO
        exact hO
      · rw [List.take_of_length_le (by omega), decide_eq_true (show tks.length < tks.length + 1 by omega), List.size_toArray]
    · have hd : decide (tks.length < k) = true := decide_eq_true hgt
      rw [hd]
      refine wpAny_pure ⟨_, rfl, rs, own, _, _, rfl, hE, ?_, hown, hsize, ?_⟩
      · rw [List.take_of_length_le (by omega)]
        rw [List.take_of_length_le (by omega)] at hO
        exact hO
      · rw [List.take_of_length_le (show tks.length ≤ k by omega), List.take_of_length_le (show tks.length ≤ k + 1 by omega), decide_eq_true (show tks.length < k + 1 by omega)]
  · exact ⟨[], [], s.heap, s.toks, rfl, Ext.refl _, rfl, (fun _ h => nomatch h), Nat.le_refl _, by rw [T6]; rfl⟩
  · obtain ⟨rs, own, h', tk', rfl, hE, hO, hown, hsize, hb⟩ := hb
    have this : ∀ l : List Tk, l.length ≤ (txs l).length := by
      intro l
      induction l with
      | nil => exact Nat.le_refl _
      | cons u r ih =>
        show r.length + 1 ≤ (u.tx ++ txs r).length
        rw [List.length_append]
        unfold Tk.tx
        simp only [List.length_append, List.length_cons]; omega
    have hbig : tks.length < reMostMatches T := by
      have := this tks
      unfold reMostMatches
      rw [T1, List.size_toArray]; omega
    subst hb
    rw [List.take_of_length_le (by omega)] at hO
    rw [decide_eq_true hbig]
    show wpAny _ _ (newList (rs.map Value.ref) >>= _) _ _ _
    refine wpAny_bind (wpAny_newList ?_ (by rw [List.length_map, OwnT.len hO, sizeLine_eq]; have := this tks; omega))
    exact wpAny_pure (k _ rs own _ _ _ (hE.trans fun b o e => Heap.get?_push_of_some _ e) hO (fun p hp => ⟨Heap.get?_push_of_some _ (hown p hp).1, (hown p hp).2⟩) (Heap.get?_push_size _ rfl) hsize (fun p hp => Heap.lt_size (hown p hp).1))
end SR
end
-- X6
section
namespace SR
variable {w : World} {A : Around} {E : Value → Shared → Prop} {s : Shared} {x : PySem.Str} {t : PySem.Tok} {h₀ : Heap} {L : Addr} {m : PySem.Str → Option Value} {news : List (Addr × Obj)}
theorem ga_re : typeLookup (.type "re.Pattern") "__getattribute__" = pure (some (.builtin "object.__getattribute__")) := by rw [typeLookup_type, builtinLookup_eq_fast]; kernel_rfl
theorem no_getattr_re : typeLookup (.type "re.Pattern") "__getattr__" = pure none := by rw [typeLookup_type, builtinLookup_eq_fast]; kernel_rfl
theorem canon_re : (Manifest.canonical "object.__getattribute__" != "object.__getattribute__") = false := by decide +kernel
theorem type_findall : typeOf (.builtin "re.Pattern.findall") = pure (.type "method_descriptor") := by show builtinType _ = _; rw [builtinType_eq_fast]; kernel_rfl
theorem at64 (X : (Mine.hd.heap_39 w.params).In s.heap) : ∃ o, s.heap.get? 64 = some o ∧ o.cls = .type "re.Pattern" ∧ o.dict = none := by
  have e : ((Mine.hd.heap_39 w.params).lookup 64).map (fun o => (o.cls, o.dict)) = some (.type "re.Pattern", none) := by kernel_rfl
  cases h : (Mine.hd.heap_39 w.params).lookup 64 with
  | none => rw [h] at e; cases e
  | some o =>
    rw [h] at e
    have e2 := Option.some.inj e
    exact ⟨o, X 64 o h, congrArg Prod.fst e2, congrArg Prod.snd e2⟩
theorem getm {Q : Value × List Value → Shared → Prop} {pl : Sem Bool} (F : Fr h₀ L s.heap m) (X₀ : (Mine.hd.heap_39 w.params).In h₀) (h : Q (.builtin "re.Pattern.findall", [.ref 64]) s) :
    wpAny (model PySem.Challenge.pw_bk5003_01 w) A (getMethod (.ref 64) (PySem.Str.ofString "findall") pl) Q E s := by
  obtain ⟨o, ho, hc, hd⟩ := at64 (X₀.keeps F.keep)
  have hT : s.TypeIs (.ref 64) "re.Pattern" := ⟨o, ho, hc⟩
  unfold getMethod
  refine wpAny_bind (wpAny_specialOf hT ga_re ?_)
  show wpAny _ A (if (Manifest.canonical "object.__getattribute__" != "object.__getattribute__") = true then _ else _) Q E s
  rw [canon_re, if_neg Bool.false_ne_true]
  refine wpAny_bind (wpAny_specialOf hT no_getattr_re ?_)
  refine wpAny_bind (wpAny_specialOf hT slot.lookup ?_)
  refine wpAny_bind (wpAny_of_eq type_findall ?_)
  refine wpAny_bind (wpAny_load ho ?_)
  rw [hd]
  exact wpAny_bind (wpAny_rule (wpAny_pure h))
/-- findall, in a frame -/
theorem findall_N {Q : Value → Shared → Prop} (F : Fr h₀ L s.heap m) (N : News h₀ L s.heap news) (X₀ : (Mine.hd.heap_39 w.params).In h₀) (tks : List Tk) (hok : ∀ u ∈ tks, u.Ok) (hx : x = RS.tx (txs tks)) (hsz : (txs tks).length ≤ 1000)
    (k : ∀ D rs own h' tk' nn, Fr h₀ L h' m → News h₀ L h' ((D, listOf (rs.map Value.ref).toArray nn) :: (own ++ news)) → OwnT tks rs own → (∀ p ∈ own, p.1 < D) → (∀ p ∈ news, p.1 < D) → (∀ p ∈ news, ∀ q ∈ own, p.1 < q.1) → Q (.ref D) { s with heap := h', toks := tk' }) :
    wpAny (model PySem.Challenge.pw_bk5003_01 w) A (call (.builtin "re.Pattern.findall") [.ref 64, .str x t]) Q E s := by
  have ht : s.TypeIs (.ref 64) "re.Pattern" := by
    have e : ((Mine.hd.heap_39 w.params).lookup 64).map (·.cls) = some (.type "re.Pattern") := by kernel_rfl
    cases h : (Mine.hd.heap_39 w.params).lookup 64 with
    | none => rw [h] at e; cases e
    | some o => rw [h] at e; exact ⟨o, (X₀.keeps F.keep) 64 o h, Option.some.inj e⟩
  refine wpAny_call_entry slot ht entry ?_ (args _ _)
  refine findall_body (X₀.keeps F.keep) tks hok hx hsz fun D rs own h' tk' nn hE hO hown hD hDs hlt => ⟨_, rfl, ?_⟩
  have fresh : ∀ a, s.heap.objs.size ≤ a → s.heap.get? a = none := fun a ha => by
    cases e : s.heap.get? a with
    | none => rfl
    | some o' => exact absurd (Heap.lt_size e) (Nat.not_lt.mpr ha)
  have base : ∀ a, s.heap.objs.size ≤ a → h₀.get? a = none := fun a ha => by
    cases e : h₀.get? a with
    | none => rfl
    | some o' => exact absurd (Heap.lt_size (F.keep _ _ e)) (Nat.not_lt.mpr ha)
  have hL : ∀ a, s.heap.objs.size ≤ a → a ≠ L := fun a ha e => by
    have := F.ns.lt
    rw [e] at ha
    exact Nat.lt_irrefl _ (Nat.lt_of_lt_of_le this ha)
  have hnl : ∀ p ∈ news, p.1 < s.heap.objs.size := fun p hp => Heap.lt_size (N p hp).1
  refine k D rs own h' tk' nn (Fr.ext F hE) ?_ hO hlt (fun p hp => Nat.lt_of_lt_of_le (hnl p hp) hDs) (fun p hp q hq => Nat.lt_of_lt_of_le (hnl p hp) (hown q hq).2)
  intro p hp
  rcases List.mem_cons.mp hp with rfl | hp
  · exact ⟨hD, hL _ hDs, base _ hDs⟩
  · rcases List.mem_append.mp hp with hp | hp
    · exact ⟨(hown p hp).1, hL _ (hown p hp).2, base _ (hown p hp).2⟩
    · exact (News.ext N hE) p hp
end SR
end
local macro_rules | `(tactic| walk_at "getMethod ref") => `(tactic| k_dflt ((k_here; (with_reducible show wpAny _ _ (getMethod (Value.ref 64) _ _) _ _ _); refine' SR.getm ?F ?X ?_; (case F => k_asm); (case X => assumption))))
-- R4
section
theorem asciiL_length (l : List Nat) : (RE.asciiL l).length = l.length := List.length_map _
namespace RY
open PySem.W PySem.W.KFB
section
variable {prog : Program} {w : World} {M : Model} {A : Around} {E : Value → Shared → Prop} {s : Shared} {Q : Value → Shared → Prop} {t u v : Tok} {h₀ : Heap} {L : Addr} {m : PySem.Str → Option Value} {news : List (Addr × Obj)}
theorem noI_bytes_add : typeLookup (.type "bytes") (dunderI "add") = pure none := by rw [typeLookup_type, builtinLookup_eq_fast]; kernel_rfl
theorem add {b c d : Array UInt8} (e : b ++ c = d) (hsz : d.size ≤ 16777216) (h : ∀ t' k, Q (.bytes d t') { s with toks := k }) : wpAny (model prog w) A (binaryOp .Add (.bytes b t) (.bytes c u)) Q E s := by
  subst e
  exact KBy.add_bytes (by rw [Array.size_append] at hsz; exact hsz) h
theorem iadd {b c d : Array UInt8} (e : b ++ c = d) (hsz : d.size ≤ 16777216) (h : ∀ t' k, Q (.bytes d t') { s with toks := k }) : wpAny (model prog w) A (inplaceOp .Add (.bytes b t) (.bytes c u)) Q E s := by
  subst e
  rw [Array.size_append] at hsz
  refine iconcat_gives (typeIs_bytes s b t) (typeIs_bytes s c u) noI_bytes_add KBy.noFill_bytes_add KBy.seq_bytes_add FB.slot_bytes_add FB.entry_bytes_add (FB.args_bytes_add_2 _ _) (KBy.gives_bytes_add (KBy.tooLong_not hsz)) ?_
  by_cases hb : b.isEmpty = true
  · rw [if_pos hb]
    have e : b = #[] := Array.isEmpty_iff.1 hb
    have h' := h u s.toks
    rw [e, Array.empty_append] at h'
    exact h'
  · rw [if_neg hb]
    by_cases hc : c.isEmpty = true
    · rw [if_pos hc]
      have e : c = #[] := Array.isEmpty_iff.1 hc
      have h' := h t s.toks
      rw [e, Array.append_empty] at h'
      exact h'
    · rw [if_neg hc]
      exact ⟨by rw [Array.size_append, sizeLine_eq]; exact hsz, h s.toks (s.toks + 1)⟩
theorem int_declines (a : Int) (t : Tok) (b : Array UInt8) (u : Tok) : Gives (Builtin.«int.__mul__» ⟨[.int a t, .bytes b u], []⟩) (.val (Value.notImplemented)) :=
  .of_wp fun M A E s Q h => by obtain ⟨hp, g, d, tk, os⟩ := s; wp_walk; exact ⟨_, rfl, h⟩
theorem rmul {b d : List UInt8} {n : Int} (hb : b ≠ []) (hlo : -1048576 ≤ n) (hn : n ≤ 1048576) (hs : b.length ≤ 16) (e : (List.replicate n.toNat b).flatten = d) (h : ∀ t' k, Q (.bytes d.toArray t') { s with toks := k }) :
    wpAny (model prog w) A (binaryOp .Mult (.int n u) (.bytes b.toArray t)) Q E s := by
  subst e
  have e3 : b.toArray.size = b.length := by simp
  have hle : b.length * n.toNat ≤ 16777216 := by
    have e2 : b.length * n.toNat ≤ 16 * n.toNat := Nat.mul_le_mul_right _ hs
    omega
  by_cases h1 : n = 1
  · subst h1
    refine lm_binaryOp_repeat_right (T := "bytes") (U := "int") (by decide) (fun s' => typeIs_int s' 1 u) (typeIs_bytes s _ t) F.fills_int_mul BMul.noFill F.slot_int_mul lm_noRepeat_int BMul.repeats F.slot_int_index.lookup ?_
    refine call_gives F.slot_int_mul (typeIs_int s 1 u) F.entry_int_mul (F.args_int_mul_2 _ _) (int_declines 1 u _ t) ⟨rfl, typeIs_bytes s _ t, ?_⟩
    refine call_gives BMul.slot_mul (typeIs_bytes s _ t) BMul.entry_mul (BMul.args_mul _ _) (BMul.gives_mul1 (by rw [e3]; omega)) ?_
    have h' := h t s.toks
    have e : (List.replicate (1 : Int).toNat b).flatten = b := by simp
    rw [e] at h'
    exact h'
  · have hpos : 0 < b.length := List.length_pos_iff.mpr hb
    have hf : Builtin.Bytes.fitsIndex n = true := by
      simp only [Builtin.Bytes.fitsIndex, Bool.and_eq_true, decide_eq_true_eq]
      omega
    have h63 : ¬ b.toArray.size * n.toNat ≥ 2 ^ 63 := by rw [e3]; omega
    have hne : (b.toArray.size * n.toNat == b.toArray.size) = false := by
      rw [e3]
      refine beq_false_of_ne fun e => ?_
      rcases Nat.lt_or_ge n.toNat 2 with h2 | h2
      · have h0 : n.toNat = 0 := by omega
        rw [h0] at e
        omega
      · have e2 : b.length * 2 ≤ b.length * n.toNat := Nat.mul_le_mul_left _ h2
        omega
    have hl : Builtin.Bytes.tooLong (b.toArray.size * n.toNat) = false := by rw [e3]; exact KBy.tooLong_not hle
    refine lm_binaryOp_repeat_right (T := "bytes") (U := "int") (by decide) (fun s' => typeIs_int s' n u) (typeIs_bytes s _ t) F.fills_int_mul BMul.noFill F.slot_int_mul lm_noRepeat_int BMul.repeats F.slot_int_index.lookup ?_
    refine call_gives F.slot_int_mul (typeIs_int s n u) F.entry_int_mul (F.args_int_mul_2 _ _) (int_declines n u _ t) ⟨rfl, typeIs_bytes s _ t, ?_⟩
    refine call_gives BMul.slot_mul (typeIs_bytes s _ t) BMul.entry_mul (BMul.args_mul _ _) (BMul.gives_mul hf h63 hne hl) ?_
    rw [BMul.repeated_list hb]
    refine ⟨?_, h _ _⟩
    rw [sizeLine_eq]
    have e4 : ((List.replicate n.toNat b).flatten.toArray).size = n.toNat * b.length := by simp
    rw [e4, Nat.mul_comm]
    exact hle
/-- int(b'01' + hexlify(octets), 16) -/
theorem int_hex {bs : List UInt8} (hl : bs.length ≤ 300) (h : Q (.int ((256 ^ bs.length + BT.fromB bs : Nat) : Int) s.toks) { s with toks := s.toks + 1 }) :
    wpAny (model prog w) A (call (.type "int") [.bytes (48 :: 49 :: RE.asciiL (RB.hexL bs)).toArray t, .int 16 u]) Q E s := by
  have e : ((48 :: 49 :: RE.asciiL (RB.hexL bs) : List UInt8).toArray.toList.map (·.toNat)) = [48, 49] ++ RB.hexL bs := by
    show (48 : UInt8).toNat :: (49 : UInt8).toNat :: (List.map _ (List.map _ _)) = _
    rw [List.map_map]
    refine congrArg (fun r => 48 :: 49 :: r) ?_
    conv => rhs; rw [← List.map_id (RB.hexL bs)]
    refine List.map_congr_left fun c hc => ?_
    have := hexL_lt bs c hc
    show (UInt8.ofNat c).toNat = c
    rw [UInt8.toNat_ofNat']; omega
  have hd : ∀ c ∈ [48, 49] ++ RB.hexL bs, RN.Dig 16 c := by
    intro c hc
    rcases List.mem_append.mp hc with hc | hc
    · rcases List.mem_cons.mp hc with rfl | hc
      · exact ⟨0, rfl, by decide⟩
      · rcases List.mem_cons.mp hc with rfl | hc
        · exact ⟨1, rfl, by decide⟩
        · cases hc
    · exact BT.dig_hexL bs c hc
  refine RN.int_bytes16 (by rw [e]; exact hd) (by intro c; cases c) (by rw [e]; rfl) ?_ (by rw [e, BT.dval_hex]; exact h)
  show (48 :: 49 :: List.map _ _ : List UInt8).toArray.size ≤ 640
  rw [List.size_toArray, List.length_cons, List.length_cons, List.length_map, RB.hexL_length]; omega
end
section
open KTBy
theorem little_toB : ∀ (k n : Nat), (little k (n : Int)).reverse = (BT.toB k n).map fun c => ((c.toNat : Nat) : Int)
  | 0, _ => rfl
  | k + 1, n => by
    show ((n : Int) % 256 :: little k ((n : Int) / 256)).reverse = _
    rw [show ((n : Int) / 256) = ((n / 256 : Nat) : Int) by omega, List.reverse_cons, little_toB k (n / 256)]
    show _ = List.map _ (BT.toB k (n / 256) ++ [(n % 256).toUInt8])
    rw [List.map_append]
    refine congrArg _ ?_
    show [_] = [_]
    refine congrArg (fun z => [z]) ?_
    show (n : Int) % 256 = (((n % 256).toUInt8.toNat : Nat) : Int)
    rw [BT.u8]; omega
theorem bytes_inj {a b : List UInt8} (h : (a.map fun c => ((c.toNat : Nat) : Int)) = b.map fun c => ((c.toNat : Nat) : Int)) : a = b := by
  induction a generalizing b with
  | nil => cases b with | nil => rfl | cons _ _ => cases h
  | cons x r ih =>
    cases b with
    | nil => cases h
    | cons y q =>
      injection h with h1 h2
      rw [ih h2, UInt8.toNat_inj.mp (Int.ofNat_inj.mp h1)]
variable {prog : Program} {w : World} {M : Model} {A : Around} {E : Value → Shared → Prop} {s : Shared} {Q : Value → Shared → Prop} {t u v : Tok}
theorem to_big {k n : Nat} (hk : k ≤ 1000) (h1 : n < 256 ^ k) (h : ∀ t' k', Q (.bytes (BT.toB k n).toArray t') { s with toks := k' }) :
    wpAny (model prog w) A (call (.builtin "int.to_bytes") [.int (n : Int) t, .int (k : Int) u, .str (PySem.Str.ofString "big") v]) Q E s := by
  refine wpAny_call_entry slot (typeIs_int s (n : Int) t) entry ?_ (args _ _ _)
  have h1' : (n : Int) < 256 ^ k := by rw [p256]; omega
  have h0 : (0 : Int) ≤ (n : Int) := by omega
  have hb := bits_le (x := (n : Int)) (k := k) rfl h0 h1'
  show wpAny _ _ (Builtin.Int.intOfSelf (.int (n : Int) t) >>= fun y => _) _ _ s
  refine wpAny_bind (wpAny_of_eq (a := (n : Int)) rfl ?_)
  show wpAny _ _ (Builtin.Int.intBindNamed "to_bytes" ["length", "byteorder", "signed"] 0 2 [.int (k : Int) u, .str (PySem.Str.ofString "big") v] [] >>= fun l => _) _ _ s
  refine wpAny_bind (wpAny_of_eq (a := [some (.int (k : Int) u), some (.str (PySem.Str.ofString "big") v), none]) (by kernel_rfl) ?_)
  show wpAny _ _ (Builtin.Int.intIndex "int.to_bytes" (.int (k : Int) u) >>= fun n => _) _ _ s
  refine wpAny_bind (wpAny_of_eq (a := (k : Int)) rfl ?_)
  refine KTBy.if_not (by show (decide ((k : Int) < -(2 ^ 63 : Int)) || decide ((k : Int) ≥ 2 ^ 63)) = false; rw [decide_eq_false (show ¬ ((k : Int) < -(2 ^ 63 : Int)) by omega), decide_eq_false (show ¬ ((k : Int) ≥ 2 ^ 63) by omega)]; rfl) ?_
  refine wpAny_bind (wpAny_of_eq (a := PySem.Str.ofString "big") (by kernel_rfl) ?_)
  refine wpAny_bind (wpAny_of_eq (a := false) rfl ?_)
  refine wpAny_bind (wpAny_of_eq (a := false) (by kernel_rfl) ?_)
  refine wpAny_ite_false (decide_eq_false (show ¬ ((k : Int) < 0) by omega)) ?_
  refine wpAny_ite_false (decide_eq_false (show ¬ ((k : Int) > 2 ^ 63 - 1 - 33) by omega)) ?_
  refine wpAny_ite_false (decide_eq_false (show ¬ ((k : Int) > (sizeLine : Int)) by rw [sizeLine_eq]; omega)) ?_
  refine KTBy.if_not (by show (decide ((n : Int) < 0) && !false) = false; rw [decide_eq_false (show ¬ (n : Int) < 0 by omega)]; rfl) ?_
  refine KTBy.if_not (by show (_ && decide ((Builtin.Int.intBits (n : Int) : Int) > 8 * (k : Int))) = false; rw [decide_eq_false (show ¬ ((Builtin.Int.intBits (n : Int) : Int) > 8 * (k : Int)) by omega), Bool.and_false]) ?_
  refine wpAny_bind (wpAny_mkBytes (wpAny_pure ⟨_, rfl, ?_⟩) (by show (List.reverse (low (n : Int) (Int.toNat (k : Int)))).length ≤ sizeLine; rw [List.length_reverse, low_length, Int.toNat_natCast, sizeLine_eq]; omega))
  have e : (List.reverse (low (n : Int) (Int.toNat (k : Int)))) = BT.toB k n := by
    refine bytes_inj ?_
    rw [Int.toNat_natCast, List.map_reverse, low_ints h0 h1', ← little_eq, little_toB]
  show Q (.bytes (List.reverse (low (n : Int) (Int.toNat (k : Int)))).toArray _) _
  rw [e]
  exact h _ _
end
section
variable {prog : Program} {w : World} {M : Model} {A : Around} {E : Value → Shared → Prop} {s : Shared} {Q : Value → Shared → Prop} {t u v : Tok} {h₀ : Heap} {L : Addr} {m : PySem.Str → Option Value} {news : List (Addr × Obj)}
theorem grownM {n K : Nat} (hK : K ≤ 8000) (hn : n < 2 ^ K) (h : Q (.int (n : Int) s.toks) { s with toks := s.toks + 1 }) : wpAny M A (mkIntGrown (n : Int)) Q E s := by
  unfold mkIntGrown
  have hl : ¬ ((n : Int).natAbs.log2 ≥ bitsLine) := by
    rw [Int.natAbs_natCast]
    have hb : bitsLine = 134217728 := by first | rfl | decide
    by_cases hz : n = 0
    · subst hz
      rw [hb]
      decide
    · have h1 := (Nat.log2_lt hz).mpr hn
      omega
  rw [if_neg hl]
  exact wpAny_mkInt h
theorem tree_bigM {bs : List UInt8} {t u : Tok} {P : Fin → Shared → Prop} (hl : bs.length ≤ 1000) (h : P (.done (.ret (.int (BT.fromB bs : Nat) s.toks))) { s with toks := s.toks + 1 }) :
    wpAny M A (Builtin.«int.from_bytes» ⟨[.type "int", .bytes bs.toArray t, .str (PySem.Str.ofString "big") u], []⟩) P E s := by
  have hn : BT.fromB bs < 2 ^ (8 * bs.length) := by
    have h1 := BT.fromB_lt bs
    rw [BT.pow_256] at h1
    exact h1
  unfold Builtin.«int.from_bytes»
  refine wpAny_bind (wpAny_of_eq (a := true) type_int ?_)
  refine if_not rfl ?_
  refine wpAny_bind (wpAny_of_eq (a := true) F.conv_sub_int ?_)
  refine if_not rfl ?_
  refine wpAny_bind (wpAny_of_eq (a := [some (.bytes bs.toArray t), some (.str (PySem.Str.ofString "big") u), none]) (by kernel_rfl) ?_)
  refine wpAny_bind (wpAny_of_eq (a := PySem.Str.ofString "big") (by kernel_rfl) ?_)
  refine wpAny_bind (wpAny_of_eq (a := false) rfl ?_)
  refine wpAny_bind (wpAny_of_eq (a := false) (by kernel_rfl) ?_)
  refine wpAny_bind (wpAny_of_eq (a := bs.toArray) rfl ?_)
  show wpAny _ _ (mkIntGrown (bs.foldl (fun (acc : Int) (b : UInt8) => acc * 256 + (b.toNat : Int)) ((0 : Nat) : Int)) >>= fun v => _) _ _ _
  rw [foldI_eq]
  refine wpAny_bind (grownM (by omega) hn ?_)
  refine if_so (by decide +kernel) ?_
  exact wpAny_bind (wpAny_pure (wpAny_pure h))
theorem from_big {x : Addr} {bs : List UInt8} (N : News h₀ L s.heap news) (hm : (x, KFB.bound) ∈ news) (hl : bs.length ≤ 1000)
    (h : Q (.int (BT.fromB bs : Nat) s.toks) { s with toks := s.toks + 1 }) : wpAny (model prog w) A (call (.ref x) [.bytes bs.toArray t, .str (PySem.Str.ofString "big") u]) Q E s :=
  call_of (at_of N hm) (fun z => tree_bigM hl z) h
end
end RY
end
local macro_rules | `(tactic| walk_at "mine le") => `(tactic| (simp only [asciiL_length, BT.bst_length, RS.tx_len, BT.bl_length, List.length_append, List.length_cons, List.length_nil, List.length_replicate, RB.hexL_length, BT.toB_length, sizeLine_eq, PySem.Str.length_append, List.size_toArray]; omega))
local macro_rules | `(tactic| walk_at "binaryOp Add bytes bytes") => `(tactic| k_dflt ((refine' RY.add ?e ?hs ?_; (case e => walk_at "mine eq"); (case hs => walk_at "mine le"); intro _ _)))
local macro_rules | `(tactic| walk_at "inplaceOp Add bytes bytes") => `(tactic| k_dflt ((refine' RY.iadd ?e ?hs ?_; (case e => walk_at "mine eq"); (case hs => walk_at "mine le"); intro _ _)))
local macro_rules | `(tactic| walk_at "binaryOp Mult int bytes") => `(tactic| k_dflt ((refine' RY.rmul ?hb ?h1 ?h2 ?h3 ?e ?_; (case hb => exact List.cons_ne_nil _ _); (case h1 => omega); (case h2 => omega); (case h3 => exact Nat.le_of_ble_eq_true rfl); (case e => walk_at "mine eq"); intro _ _)))
local macro_rules | `(tactic| walk_at "call type:int") => `(tactic| k_dflt (((with_reducible show wpAny _ _ (call (Value.type "int") [Value.bytes _ _, _]) _ _ _); refine' RY.int_hex ?hl ?_; (case hl => walk_at "mine le"))))
local macro_rules | `(tactic| walk_at "call builtin:int.to_bytes") => `(tactic| k_dflt ((refine' RY.to_big ?hk ?h1 ?_; (case hk => omega); (case h1 => assumption); intro _ _)))
-- R5
section
section
variable {M : Model} {A : Around} {c : Code} {E : Value → Shared → Prop} {s : Shared} {env : Env}
theorem at_spliced1 {x : Sem Value} {Q : List Value → Shared → Prop} (h : _root_.PySem.wpAt M A c x (fun v s₁ => Q [v] s₁) E s) : _root_.PySem.wpAt M A c (spliced [(false, x)]) Q E s := by
  rw [spliced]
  refine _root_.PySem.wpAt_bind (_root_.PySem.wpAt_mono h (fun v s₁ h₁ => wpAt_of_wpAny ?_) fun _ _ x => x)
  simp only [Bool.false_eq_true, if_false]
  exact wpAny_bind (wpAny_pure (wpAny_bind (wpAny_holding (Calls.spliced_nil (wpAny_pure h₁)))))
theorem at_call1 {T : String} {id : PySem.Str} {p pos : Pos} {e : Expr} {Q : Value → Shared → Prop}
    (hn : wpAny M A (eval (.Name id p) env) (fun f s₁ => f = .type T ∧ s₁ = s) E s) (h : _root_.PySem.wpAt M A c (eval e env) (fun v s₂ => wpAny M A (call (.type T) [v]) Q E s₂) E s)
    (he : starEach [e] env = [(false, eval e env)] := by rfl) : _root_.PySem.wpAt M A c (eval (.Call (.Name id p) [e] [] pos) env) Q E s := by
  rw [arm_eval_Call_Name', he]
  refine _root_.PySem.wpAt_bind (wpAt_of_wpAny (wpAny_mono hn (fun f s₁ h₁ => ?_) fun _ _ x => x))
  obtain ⟨rfl, rfl⟩ := h₁
  show _root_.PySem.wpAt M A c (callWith pos (.type T) [] [(false, eval e env)] []) Q E _
  unfold callWith
  refine _root_.PySem.wpAt_bind (ks_wpAt_holding ?_)
  unfold evalArgs
  show _root_.PySem.wpAt M A c (spliced [(false, eval e env)] >>= _) _ E _
  refine _root_.PySem.wpAt_bind (at_spliced1 (_root_.PySem.wpAt_mono h (fun v s₂ h₂ => wpAt_of_wpAny (wpAny_holding ?_)) fun _ _ x => x))
  refine wpAny_bind (wpAny_pure (wpAny_bind (wpAny_pure (wpAny_pure (wpAt_of_wpAny ?_)))))
  refine wpAny_bind (wpAny_standAt ?_)
  refine wpAny_bind (wpAny_pure ?_)
  exact wpAny_bind (wpAny_mono h₂ (fun r s₂ hr => wpAny_bind (wpAny_holding (wpAny_point (wpAny_pure hr)))) fun _ _ x => x)
end
theorem item_head (W N : Nat) (hw : 1 ≤ W) (hn : N < 2 ^ W) : Txt.item (RS.tx (BT.bl W N)) 0 = if N < 2 ^ (W - 1) then PySem.Str.ofString "0" else PySem.Str.ofString "1" := by
  obtain ⟨V, rfl⟩ : ∃ V, W = V + 1 := ⟨W - 1, by omega⟩
  have h := BT.bl_head V N
  have e : PySem.Txt.charAt (RS.tx (BT.bl (V + 1) N)) 0 = some (48 + N / 2 ^ V % 2) := by
    have hb : (RS.tx (BT.bl (V + 1) N)).length = V + 1 := by rw [RS.tx_len, BT.bl_length]
    have h0 : PySem.seqIndex? 0 (V + 1) = some 0 := by
      unfold PySem.seqIndex?
      simp
    show (PySem.seqIndex? 0 (RS.tx (BT.bl (V + 1) N)).length).bind _ = _
    rw [hb, h0, ← h]
    show (BT.bl (V + 1) N).toArray[0]? = _
    simp
  show PySem.Str.mk #[(PySem.Txt.charAt _ 0).getD 0] = _
  rw [e, Nat.add_sub_cancel]
  have hd : N / 2 ^ V < 2 := by
    rw [Nat.div_lt_iff_lt_mul (Nat.two_pow_pos V), Nat.mul_comm, ← Nat.pow_succ]; exact hn
  by_cases hc : N < 2 ^ V
  · rw [if_pos hc, Nat.div_eq_of_lt hc]; rfl
  · have : N / 2 ^ V = 1 := by
      have := (Nat.le_div_iff_mul_le (Nat.two_pow_pos V)).mpr (by omega : 1 * 2 ^ V ≤ N)
      omega
    rw [if_neg hc, this]; rfl
theorem nz (N : Nat) : (((N : Nat) : Int) != 0) = (N != 0) := by
  cases N with
  | zero => rfl
  | succ n =>
    have : ((n + 1 : Nat) : Int) ≠ 0 := by omega
    rw [bne_iff_ne.mpr this]; rfl
theorem len_bl {prog : Program} {w : World} {A : Around} {E : Value → Shared → Prop} {s : Shared} {W N : Nat} {t : Tok} {Q : Value → Shared → Prop} (hz : W ≤ 100000) (h : Q (.int (W : Int) (s.toks + 1)) { s with toks := s.toks + 1 + 1 }) :
    wpAny (model prog w) A (call (.builtin "len") [.str (RS.tx (BT.bl W N)) t]) Q E s := by
  have e : (RS.tx (BT.bl W N)).length = W := by rw [RS.tx_len, BT.bl_length]
  refine PySem.P.len_str (by rw [e]; omega) ?_
  rw [e]; exact h
end
local macro_rules | `(tactic| walk_at "subscriptTail") => `(tactic| k_dflt (((with_reducible show wpAny _ _ (subscriptTail _ _ (Value.str _ _) (Value.int _ _)) _ _ _); refine' RS.item ?e ?h1 ?h2 ?h3 ?_; (case e => walk_at "mine eq"); (case h1 => omega); (case h2 => (rw [RS.tx_len, BT.bl_length]; omega)); (case h3 => walk_at "mine le"))))
local macro_rules | `(tactic| walk_at "subscriptTail Name Constant str int") => `(tactic| k_dflt (((with_reducible show wpAny _ _ (subscriptTail _ _ (Value.str _ _) (Value.int _ _)) _ _ _); refine' RS.item ?e ?h1 ?h2 ?h3 ?_; (case e => walk_at "mine eq"); (case h1 => omega); (case h2 => (rw [RS.tx_len, BT.bl_length]; omega)); (case h3 => walk_at "mine le"))))
local macro_rules | `(tactic| walk_at "call builtin:len") => `(tactic| k_dflt (((with_reducible show wpAny _ _ (call (Value.builtin "len") [Value.str _ _]) _ _ _); refine len_bl ?hz ?_; (case hz => omega))))
-- R6
section
namespace RT
section
variable {prog : Program} {w : World} {A : Around} {E : Value → Shared → Prop} {s : Shared} {Q : Value → Shared → Prop} {value slice : PySem.Expr} {l : Addr} {vs : List Value} {x : Value} {i : Int} {t u : Tok}
theorem item_tup (ht : IsTup s.heap l vs.toArray) (h0 : 0 ≤ i) (hfit : i < 2 ^ 63) (hx : vs[i.toNat]? = some x) (h : Q x s)
    (hs : subscripted slice false (.ref l) (.int i u) = operate [.ref l, .int i u] (getItem (.ref l) (.int i u)) := by with_unfolding_all rfl) :
    wpAny (model prog w) A (subscriptTail value slice (.ref l) (.int i u)) Q E s := by
  have hlt : i.toNat < vs.length := (List.getElem?_eq_some_iff.mp hx).1
  have hn : i < ((vs.toArray.size : Nat) : Int) := by rw [List.size_toArray]; omega
  exact tail_any ht.typeIs slot_tuple_getitem.lookup (getItem_tuple ht (by omega) hfit (seqIndex_of h0 hn) (x := x) (by simpa using hx) h) hs
theorem item_list (hl : s.heap.IsList l vs.toArray) (h0 : 0 ≤ i) (hfit : i < 2 ^ 63) (hx : vs[i.toNat]? = some x) (h : Q x s)
    (hs : subscripted slice false (.ref l) (.int i u) = operate [.ref l, .int i u] (getItem (.ref l) (.int i u)) := by with_unfolding_all rfl) :
    wpAny (model prog w) A (subscriptTail value slice (.ref l) (.int i u)) Q E s :=
  tail_any hl.typeIs slot_list_getitem.lookup (wpAny_getItem_list hl h0 hfit (x := x) (by simpa using hx) h) hs
theorem look_bytes : typeLookup (.type "bytes") "__bytes__" = pure (some (.builtin "bytes.__bytes__")) := by rw [typeLookup_type, builtinLookup_eq_fast]; kernel_rfl
theorem bytes_new (b : Array UInt8) (t : Tok) : Gives (Builtin.«bytes.__new__» ⟨[.type "bytes", .bytes b t], []⟩) (.val (.bytes b t)) :=
  .of_wp fun M A E s Q hq => by
    obtain ⟨hp', g, d, tk, os⟩ := s
    have f1 := F.bm_sub
    wp_walk
    refine wpAny_of_eq look_bytes ?_
    split
    · refine wpAny_bind (wpAny_rule ?_)
      refine wpAny_bind (wpAny_typeOf (typeIs_bytes _ b t) ?_)
      refine bm_if_true (by decide) ?_
      show wpAny _ _ (if (Value.type "bytes" == Value.type "bytes") = true then _ else _) _ _ _
      refine bm_if_true (by decide) ?_
      first
        | exact wpAny_pure ⟨_, rfl, hq⟩
        | exact wpAny_bind (wpAny_pure (wpAny_pure ⟨_, rfl, hq⟩))
    · rename_i hno heq; exact (hno (Option.some.inj heq.symm)).elim
    · rename_i heq; exact nomatch heq
theorem newCall (a : Value) : checkBuiltinCall "bytes.__new__" ⟨[.type "bytes", a], []⟩ = pure () := by kernel_rfl
theorem typeCall (a : Value) : checkTypeCall "bytes" ⟨[a], []⟩ = pure () := by kernel_rfl
theorem args_init_2 (obj a : Value) : argsOk "object.__init__" ⟨[obj, a], []⟩ := by unfold argsOk; kernel_rfl
theorem bytes_bytes {b : Array UInt8} (h : Q (.bytes b t) s) : wpAny (model prog w) A (call (.type "bytes") [.bytes b t]) Q E s :=
  callType_new F.bm_called (by decide) (typeCall _) (newCall _) (fun obj => args_init_2 obj _) F.bm_entry (bytes_new b t).meets (show (Made.val _).post _ s from ⟨typeIs_bytes s b t, h⟩)
end
end RT
end
local macro_rules | `(tactic| walk_at "call type:bytes") => `(tactic| k_dflt (((with_reducible show wpAny _ _ (call (Value.type "bytes") [Value.bytes _ _]) _ _ _); refine RT.bytes_bytes ?_)))
local macro_rules | `(tactic| walk_at "subscriptTail") => `(tactic| k_dflt ((k_here; (with_reducible show wpAny _ _ (subscriptTail _ _ (Value.ref _) (Value.int _ _)) _ _ _); refine' RT.item_tup ?ht ?h0 ?hf ?hx ?_; (case ht => exact IsTup.keeps (by assumption) (Fr.keep (by k_asm))); (case h0 => omega); (case hf => omega); (case hx => walk_at "mine eq"))))
local macro_rules | `(tactic| walk_at "subscriptTail Name Constant ref int") => `(tactic| k_dflt ((k_here; (with_reducible show wpAny _ _ (subscriptTail _ _ (Value.ref _) (Value.int _ _)) _ _ _); refine' RT.item_tup ?ht ?h0 ?hf ?hx ?_; (case ht => exact IsTup.keeps (by assumption) (Fr.keep (by k_asm))); (case h0 => omega); (case hf => omega); (case hx => walk_at "mine eq"))))
local macro_rules | `(tactic| walk_at "call builtin:len") => `(tactic| k_dflt ((k_here; (with_reducible show wpAny _ _ (call (Value.builtin "len") [Value.ref _]) _ _ _); refine' len_tuple ?ht ?hf ?_; (case ht => first | exact IsTup.keeps (by assumption) (Fr.keep (by k_asm)) | assumption); (case hf => (rw [List.size_toArray]; omega)))))
-- R7
section
namespace RS
open Builtin Builtin.Str
theorem glued_nil (ys : List (List Nat)) : Txt.join (PySem.Str.ofString "") (ys.map tx) = tx ys.flatten := by
  have e : PySem.Str.ofString "" = tx [] := rfl
  rw [e]
  have key : ∀ (l : List (List Nat)) (acc : List Nat), ((l.map tx).foldl (fun (acc : Array Nat) (p : PySem.Str) => acc ++ (tx []).cps ++ p.cps) acc.toArray).toList = acc ++ l.flatten := by
    intro l
    induction l with
    | nil => intro acc; simp
    | cons a r ih =>
      intro acc
      rw [List.map_cons, List.foldl_cons]
      have e : (acc.toArray ++ (tx []).cps ++ (tx a).cps : Array Nat) = (acc ++ a).toArray := by show (acc.toArray ++ #[] ++ a.toArray : Array Nat) = _; simp
      rw [e, ih]; simp
  refine str_ext ?_
  show (Array.toList (List.foldl _ _ _)) = _
  cases ys with
  | nil => rfl
  | cons a r => exact key r a
theorem item_last (l : List Nat) (c : Nat) : Txt.item (tx (l ++ [c])) (-1) = tx [c] := by
  have h0 : PySem.seqIndex? (-1) (l.length + 1) = some l.length := by
    unfold PySem.seqIndex?
    simp only [show ((-1 : Int) < 0) = True by simp, if_true]
    have h1 : (decide ((0 : Int) ≤ -1 + ((l.length + 1 : Nat) : Int)) && decide (-1 + ((l.length + 1 : Nat) : Int) < ((l.length + 1 : Nat) : Int))) = true := by
      rw [Bool.and_eq_true, decide_eq_true_eq, decide_eq_true_eq]; omega
    rw [h1]
    refine congrArg some ?_
    omega
  have hb : (tx (l ++ [c])).length = l.length + 1 := by rw [tx_len]; simp
  have e : PySem.Txt.charAt (tx (l ++ [c])) (-1) = some c := by
    show (PySem.seqIndex? (-1) (tx (l ++ [c])).length).bind _ = _
    rw [hb, h0]
    show (l ++ [c]).toArray[l.length]? = _
    simp
  show PySem.Str.mk #[(PySem.Txt.charAt _ (-1)).getD 0] = _
  rw [e]; rfl
theorem to_last (l : List Nat) (c : Nat) : Txt.slice (tx (l ++ [c])) none (some (-1)) = tx l := by
  have hb : (tx (l ++ [c])).length = l.length + 1 := by rw [tx_len]; simp
  have h := StrLaws.sliceText_to_neg (x := tx (l ++ [c])) (j := -1) (by decide) (by rw [hb]; omega)
  refine (show Txt.slice (tx (l ++ [c])) none (some (-1)) = StrLaws.sliceText (tx (l ++ [c])) none (some (-1)) from rfl).trans (h.trans ?_)
  refine congrArg tx ?_
  show List.take _ (List.drop 0 (l ++ [c]).toArray.toList) = _
  rw [hb, show ((-1 : Int) + ((l.length + 1 : Nat) : Int) - 0).toNat = l.length by omega]
  simp
section
variable {prog : Program} {w : World} {A : Around} {E : Value → Shared → Prop} {s : Shared} {x y z : PySem.Str} {t u : Tok} {Q : Value → Shared → Prop}
theorem truth {b : Bool} {Q : Bool → Shared → Prop} (e : ((x.length : Int) != 0) = b) (hz : x.length ≤ 100000) (h : Q b { s with toks := s.toks + 1 + 1 }) : wpAny (model prog w) A (truthy (.str x t)) Q E s :=
  PySem.P.truthy_str (by omega) (by rw [e]; exact h)
theorem cin {b : Bool} (e : Txt.contains x y = b) (h : Q (.bool b) s) : wpAny (model prog w) A (compareOp .In (.str y u) (.str x t)) Q E s := SB.contains (by rw [e]; exact h)
theorem join_tup {D : Addr} {items : Array Value} {ys : List PySem.Str} (hl : IsTup s.heap D items) (hi : StrsAre items.toList ys) (e : Txt.join x ys = z) (hsep : x.length ≤ 16) (hw : (ys.map (·.length)).sum + ys.length ≤ 1048576)
    (h : ∀ t' k, Q (.str z t') { s with toks := k }) : wpAny (model prog w) A (call (.builtin "str.join") [.str x t, .ref D]) Q E s := join_tupleW hl hi hsep hw fun t' k => by rw [e]; exact h t' k
theorem join_lst {D : Addr} {items : Array Value} {ys : List PySem.Str} (hl : s.heap.IsList D items) (hi : StrsAre items.toList ys) (e : Txt.join x ys = z) (hsep : x.length ≤ 16) (hw : (ys.map (·.length)).sum + ys.length ≤ 1048576)
    (h : ∀ t' k, Q (.str z t') { s with toks := k }) : wpAny (model prog w) A (call (.builtin "str.join") [.str x t, .ref D]) Q E s := join_listW hl hi hsep hw fun t' k => by rw [e]; exact h t' k
end
end RS
end
local macro_rules | `(tactic| walk_at "truthy str") => `(tactic| k_dflt ((refine' RS.truth ?e ?hz ?_; (case e => walk_at "mine eq"); (case hz => walk_at "mine le"))))
local macro_rules | `(tactic| walk_at "compareOp In str str") => `(tactic| k_dflt ((refine' RS.cin ?e ?_; (case e => first | with_reducible assumption | assumption))))
local macro_rules | `(tactic| walk_at "subscriptTail") => `(tactic| k_dflt (((with_reducible show wpAny _ _ (subscriptTail _ _ (Value.str _ _) (Value.int _ _)) _ _ _); refine' RS.item ?e ?h1 ?h2 ?h3 ?_; (case e => first | with_reducible assumption | assumption); (case h1 => walk_at "mine le"); (case h2 => walk_at "mine le"); (case h3 => walk_at "mine le"))))
local macro_rules | `(tactic| walk_at "subscriptTail Name UnaryOp str int") => `(tactic| k_dflt (((with_reducible show wpAny _ _ (subscriptTail _ _ (Value.str _ _) (Value.int _ _)) _ _ _); refine' RS.item ?e ?h1 ?h2 ?h3 ?_; (case e => first | with_reducible assumption | assumption); (case h1 => walk_at "mine le"); (case h2 => walk_at "mine le"); (case h3 => walk_at "mine le"))))
local macro_rules | `(tactic| walk_at "call builtin:str.join") => `(tactic| k_dflt ((refine' RS.join_lst ?ht ?hi ?e ?h1 ?h2 ?_; (case ht => exact News.isList (by k_asm) (by k_mem)); (case hi => assumption); (case e => walk_at "mine eq"); (case h1 => exact Nat.le_of_ble_eq_true rfl); (case h2 => first | assumption | walk_at "mine le"); intro _ _)))
local macro_rules | `(tactic| walk_at "call builtin:str.join") => `(tactic| k_dflt ((refine' RS.join_tup ?ht ?hi ?e ?h1 ?h2 ?_; (case ht => assumption); (case hi => assumption); (case e => walk_at "mine eq"); (case h1 => exact Nat.le_of_ble_eq_true rfl); (case h2 => first | assumption | walk_at "mine le"); intro _ _)))
-- I1
section
theorem instKeeps {h h' : Heap} {x C : Addr} {ox : Obj} {od : Option Obj} (I : PySem.W.InstAt h x ox C od) (k : ∀ b o, h.get? b = some o → h'.get? b = some o) : PySem.W.InstAt h' x ox C od := by
  obtain ⟨a, b, c, d⟩ := I
  refine ⟨k _ _ a, b, c, ?_⟩
  cases hd : ox.dict with
  | none => rw [hd] at d; cases od with | none => trivial | some o => exact d
  | some dx => rw [hd] at d; cases od with | none => exact d | some o => exact k _ _ d
inductive Kd where | u | s | b | r | t | p | q
/-- the class of each kind -/
def Kd.cls : Kd → Addr
  | .u => 167 | .s => 132 | .b => 196 | .r => 298 | .t => 383 | .p => 329 | .q => 348
def InfoEs (k : Kd) (W : Nat) (nm : Value) (es : List DictEntry) : Prop :=
  ∃ a1 t1 u1 a2 t2 a3 t3 u3, match k with
  | .u | .b => ∃ a4 t4 u4, es = [⟨a1, .str (PySem.Str.ofString "size") t1, .int (W : Int) u1⟩, ⟨a2, .str (PySem.Str.ofString "name") t2, nm⟩, ⟨a3, .str (PySem.Str.ofString "endianness") t3, .str (PySem.Str.ofString ">") u3⟩, ⟨a4, .str (PySem.Str.ofString "maximum") t4, .int (2 ^ W - 1) u4⟩]
  | .s => ∃ a4 t4 u4 a5 t5 u5, es = [⟨a1, .str (PySem.Str.ofString "size") t1, .int (W : Int) u1⟩, ⟨a2, .str (PySem.Str.ofString "name") t2, nm⟩, ⟨a3, .str (PySem.Str.ofString "endianness") t3, .str (PySem.Str.ofString ">") u3⟩, ⟨a4, .str (PySem.Str.ofString "minimum") t4, .int (-2 ^ (W - 1)) u4⟩, ⟨a5, .str (PySem.Str.ofString "maximum") t5, .int (2 ^ (W - 1) - 1) u5⟩]
  | .r | .p | .q => es = [⟨a1, .str (PySem.Str.ofString "size") t1, .int (W : Int) u1⟩, ⟨a2, .str (PySem.Str.ofString "name") t2, nm⟩, ⟨a3, .str (PySem.Str.ofString "endianness") t3, .str (PySem.Str.ofString ">") u3⟩]
  | .t => ∃ a4 t4 v4 a5 t5 v5, es = [⟨a1, .str (PySem.Str.ofString "size") t1, .int (W : Int) u1⟩, ⟨a2, .str (PySem.Str.ofString "name") t2, nm⟩, ⟨a3, .str (PySem.Str.ofString "endianness") t3, .str (PySem.Str.ofString ">") u3⟩, ⟨a4, .str (PySem.Str.ofString "encoding") t4, v4⟩, ⟨a5, .str (PySem.Str.ofString "errors") t5, v5⟩]
/-- an info object stands at x -/
def IsInfo (h : Heap) (x : Addr) (k : Kd) (W : Nat) (nm : Value) : Prop :=
  ∃ dx n es, PySem.W.InstAt h x (instObj k.cls dx) k.cls (some (dictOf es n)) ∧ InfoEs k W nm es
theorem IsInfo.ext {h h' : Heap} {x : Addr} {k : Kd} {W : Nat} {nm : Value} (I : IsInfo h x k W nm) (e : Ext h h') : IsInfo h' x k W nm := by
  obtain ⟨dx, n, es, i, j⟩ := I
  exact ⟨dx, n, es, instKeeps i e, j⟩
/-- the number as signed -/
def toS (W N : Nat) : Int := if N < 2 ^ (W - 1) then (N : Int) else (N : Int) - 2 ^ W
/-- the value that stands for the number N of W bits -/
def Val : Kd → Nat → Nat → Value → Prop
  | .u, _, N, v => ∃ t, v = .int (N : Int) t
  | .s, W, N, v => ∃ t, v = .int (toS W N) t
  | .b, _, N, v => v = .bool (N == 1) ∧ N ≤ 1
  | .r, W, N, v => ∃ t, v = .bytes (BT.toB ((W + 7) / 8) (N * 2 ^ (8 * ((W + 7) / 8) - W))).toArray t
  | .t, W, N, v => ∃ x t, v = .str x t ∧ (∀ c ∈ x.cps.toList, PySem.Str.isSurrogate c = false) ∧ W % 8 = 0 ∧ 8 * (RE.utf8L x.cps.toList).length ≤ W ∧ N = BT.fromB (RE.utf8L x.cps.toList) * 2 ^ (W - 8 * (RE.utf8L x.cps.toList).length)
  | _, _, _, _ => False
end
local macro_rules | `(tactic| k_inst) => `(tactic| (refine instKeeps (by with_reducible assumption) (Fr.keep (by k_asm))))
local macro_rules | `(tactic| walk_at "mine side") => `(tactic| exact IsInfo.ext (by assumption) (Fr.keep (by k_asm)))
-- I2
section
/-- a group: its kind and its width -/
structure Item where
  k : Kd
  W : Nat
def Kd.pad : Kd → Bool
  | .p | .q => true
  | _ => false
/-- how many values stand before group j -/
def cnt (its : List Item) (j : Nat) : Nat := ((its.take j).filter fun i => !i.k.pad).length
def totW (its : List Item) : Nat := (its.map (·.W)).sum
/-- the groups' bits as one number -/
def catN : List Item → List Nat → Nat → Nat
  | it :: r, N :: Ns, M => catN r Ns (M * 2 ^ it.W + N)
  | _, _, M => M
theorem totW_take {its : List Item} {j : Nat} {it : Item} (h : its[j]? = some it) : totW (its.take (j + 1)) = totW (its.take j) + it.W := by
  unfold totW
  rw [List.take_add_one, h]; simp
theorem catN_app : ∀ (a : List Item) (x : List Nat) (b : List Item) (y : List Nat) (M : Nat), a.length = x.length → catN (a ++ b) (x ++ y) M = catN b y (catN a x M)
  | [], [], _, _, _, _ => rfl
  | it :: a, n :: x, b, y, M, h => by
    show catN (a ++ b) (x ++ y) _ = catN b y (catN a x _)
    exact catN_app a x b y _ (by simpa using h)
theorem catN_take {its : List Item} {Ns : List Nat} {j : Nat} {it : Item} {N : Nat} (hl : its.length = Ns.length) (h : its[j]? = some it) (hn : Ns[j]? = some N) : catN (its.take (j + 1)) (Ns.take (j + 1)) 0 = catN (its.take j) (Ns.take j) 0 * 2 ^ it.W + N := by
  rw [List.take_add_one, h, List.take_add_one, hn]
  rw [catN_app _ _ _ _ _ (by rw [List.length_take, List.length_take, hl])]
  rfl
theorem cnt_take {its : List Item} {j : Nat} {it : Item} (h : its[j]? = some it) : cnt its (j + 1) = cnt its j + if it.k.pad then 0 else 1 := by
  unfold cnt
  rw [List.take_add_one, h]
  cases hp : it.k.pad <;> simp [hp]
theorem totW_take_le (its : List Item) (j : Nat) : totW (its.take j) ≤ totW its := by
  have h := congrArg (fun l : List Item => (l.map (·.W)).sum) (List.take_append_drop j its)
  simp only [List.map_append, List.sum_append] at h
  unfold totW
  omega
def InfosAt (h : Heap) (its : List Item) (xs : List Addr) : Prop :=
  xs.length = its.length ∧ ∀ j it x, its[j]? = some it → xs[j]? = some x → 1 ≤ it.W ∧ it.W ≤ 100 ∧ ∃ nm, IsInfo h x it.k it.W nm ∧ (it.k.pad = false → ∃ t, nm = .int (cnt its j : Nat) t)
theorem InfosAt.ext {h h' : Heap} {its : List Item} {xs : List Addr} (I : InfosAt h its xs) (e : Ext h h') : InfosAt h' its xs :=
  ⟨I.1, fun j it x a b => let ⟨p, q, nm, r, s⟩ := I.2 j it x a b; ⟨p, q, nm, r.ext e, s⟩⟩
/-- the compiled format stands at c -/
def IsCF (h : Heap) (c : Addr) (its : List Item) : Prop :=
  ∃ dx n li xs a1 t1 a2 t2 u2 a3 t3 u3 a4 t4 u4, PySem.W.InstAt h c (instObj 507 dx) 507 (some (dictOf [⟨a1, .str (PySem.Str.ofString "_infos") t1, .ref li⟩, ⟨a2, .str (PySem.Str.ofString "_byte_order") t2, .str (PySem.Str.ofString ">") u2⟩, ⟨a3, .str (PySem.Str.ofString "_number_of_bits_to_unpack") t3, .int (totW its : Nat) u3⟩, ⟨a4, .str (PySem.Str.ofString "_number_of_arguments") t4, .int (cnt its its.length : Nat) u4⟩] n)) ∧
    h.IsList li (xs.map Value.ref).toArray ∧ InfosAt h its xs
theorem IsCF.ext {h h' : Heap} {c : Addr} {its : List Item} (I : IsCF h c its) (e : Ext h h') : IsCF h' c its := by
  obtain ⟨dx, n, li, xs, a1, t1, a2, t2, u2, a3, t3, u3, a4, t4, u4, i, ⟨o, ho, r⟩, k⟩ := I
  exact ⟨dx, n, li, xs, a1, t1, a2, t2, u2, a3, t3, u3, a4, t4, u4, instKeeps i e, ⟨o, e _ _ ho, r⟩, k.ext e⟩
/-- vs are the values that stand for the numbers Ns -/
def Vals (its : List Item) (Ns : List Nat) (vs : List Value) : Prop :=
  its.length = Ns.length ∧ vs.length = cnt its its.length ∧ ∀ j it N, its[j]? = some it → Ns[j]? = some N → N < 2 ^ it.W ∧ (it.k = .p → N = 0) ∧ (it.k = .q → N = 2 ^ it.W - 1) ∧ (it.k.pad = false → ∃ v, vs[cnt its j]? = some v ∧ Val it.k it.W N v)
end
-- I3
section
/-- a group as it is written: with '>' before or not, with a blank behind or not -/
structure Fm where
  it : Item
  pre : Bool
  sp : Bool
def Kd.sign : Kd → Nat
  | .u => 117 | .s => 115 | .b => 98 | .r => 114 | .t => 116 | .p => 112 | .q => 80
def digs (n : Nat) : List Nat := (Nat.toDigits 10 n).map Char.toNat
def Fm.tk (f : Fm) : SR.Tk := { p := if f.pre then [62] else [], c := f.it.k.sign, ds := digs f.it.W, ss := if f.sp then [32] else [] }
def fmtL (fs : List Fm) : List Nat := SR.txs (fs.map Fm.tk)
theorem dig_char : ∀ n : Nat, n < 10 → 48 ≤ (Nat.digitChar n).toNat ∧ (Nat.digitChar n).toNat ≤ 57 := by decide
theorem toDigits_digit (n : Nat) : ∀ c ∈ Nat.toDigits 10 n, 48 ≤ c.toNat ∧ c.toNat ≤ 57 := by
  have core : ∀ (fuel n : Nat) (acc : List Char), (∀ c ∈ acc, 48 ≤ c.toNat ∧ c.toNat ≤ 57) → ∀ c ∈ Nat.toDigitsCore 10 fuel n acc, 48 ≤ c.toNat ∧ c.toNat ≤ 57 := by
    intro fuel
    induction fuel with
    | zero => intro n acc h c hc; exact h c (by simpa [Nat.toDigitsCore] using hc)
    | succ f ih =>
      intro n acc h c hc
      unfold Nat.toDigitsCore at hc
      have hd := dig_char (n % 10) (Nat.mod_lt _ (by decide))
      by_cases h0 : n / 10 = 0
      · simp only [h0, if_true] at hc
        rcases List.mem_cons.mp hc with rfl | hc
        · exact hd
        · exact h c hc
      · simp only [h0, if_false] at hc
        refine ih _ _ (fun d hd' => ?_) c hc
        rcases List.mem_cons.mp hd' with rfl | hd'
        · exact hd
        · exact h d hd'
  exact core _ _ _ (fun _ h => nomatch h)
theorem digs_ne (n : Nat) : digs n ≠ [] := by
  intro h
  have := congrArg List.length h
  unfold digs at this
  rw [List.length_map] at this
  have h2 : (Nat.toDigits 10 n).length ≥ 1 := toDigits_len_ge 10 n
  have h3 : (Nat.toDigits 10 n).length = 0 := this
  omega
theorem Fm.ok (f : Fm) : f.tk.Ok where
  p := by unfold Fm.tk; cases f.pre <;> simp
  c := by unfold Fm.tk; cases f.it.k <;> simp [Kd.sign, SR.Letter]
  d0 := digs_ne _
  ds := by
    intro d hd
    obtain ⟨c, hc, rfl⟩ := List.mem_map.mp hd
    exact toDigits_digit _ c hc
  ss := by
    intro d hd
    unfold Fm.tk at hd
    cases h : f.sp <;> rw [h] at hd
    · cases hd
    · simpa using hd
theorem digs_text (n : Nat) : RS.tx (digs n) = PySem.Str.ofString (toString ((n : Nat) : Int)) := str_ext (PySem.W.KIN.signs_num n).symm
theorem digs_read (n : Nat) (h : n < 10 ^ 10) : PySem.intText? (RS.tx (digs n)) = some (n : Int) := by
  rw [digs_text]; exact PySem.W.KIN.num_reads (by omega) (by omega)
theorem digs_len (n : Nat) (h : n < 10 ^ 10) : (digs n).length ≤ 10 := by
  unfold digs
  rw [List.length_map]
  exact toDigits_len_pow (by decide) (by decide) h
theorem isTup_of {h₀ h : Heap} {L a : Addr} {items : Array Value} {n : Nat} {news : List (Addr × Obj)} (N : News h₀ L h news) (hm : (a, ({ cls := .type "tuple", data := .seq items n } : Obj)) ∈ news) : IsTup h a items := ⟨_, (N _ hm).1, rfl, _, rfl⟩
theorem all_lt {l : List (Addr × Obj)} {d x : Addr} (h : ∀ p ∈ l, p.1 < d) (hd : @LE.le Nat _ d x) : ∀ p ∈ l, p.1 ≠ x := fun p hp => Nat.ne_of_lt (Nat.lt_of_lt_of_le (h p hp) hd)
theorem allLt_mem {d : Nat} (l : List (Addr × Obj)) (h : PySem.W.AllLt d l) : ∀ p ∈ l, @LT.lt Nat _ p.1 d := by
  induction l with
  | nil => intro p hp; exact nomatch hp
  | cons q r ih =>
    intro p hp
    rcases List.mem_cons.mp hp with e | hp
    · rw [e]; exact h.1
    · exact ih h.2 p hp
/-- an info object among what has been made -/
def InfoIn (own : List (Addr × Obj)) (x : Addr) (k : Kd) (W : Nat) (nm : Value) : Prop := ∃ dx n es, (x, instObj k.cls dx) ∈ own ∧ (dx, dictOf es n) ∈ own ∧ InfoEs k W nm es
theorem InfoIn.mono {own own' : List (Addr × Obj)} {x : Addr} {k : Kd} {W : Nat} {nm : Value} (I : InfoIn own x k W nm) (h : ∀ p ∈ own, p ∈ own') : InfoIn own' x k W nm :=
  let ⟨dx, n, es, a, b, c⟩ := I; ⟨dx, n, es, h _ a, h _ b, c⟩
theorem InfoIn.is {own : List (Addr × Obj)} {x : Addr} {k : Kd} {W : Nat} {nm : Value} {h : Heap} (I : InfoIn own x k W nm) (e : ∀ p ∈ own, h.get? p.1 = some p.2) : IsInfo h x k W nm := by
  obtain ⟨dx, n, es, a, b, c⟩ := I
  exact ⟨dx, n, es, ⟨e _ a, rfl, rfl, e _ b⟩, c⟩
theorem News.swap22 {h₀ h : Heap} {L : Addr} {a b c d : Addr × Obj} {r : List (Addr × Obj)} (N : News h₀ L h (a :: b :: c :: d :: r)) : News h₀ L h (c :: d :: a :: b :: r) := by
  intro p hp
  refine N p ?_
  rcases List.mem_cons.mp hp with rfl | hp
  · exact .tail _ (.tail _ (.head _))
  · rcases List.mem_cons.mp hp with rfl | hp
    · exact .tail _ (.tail _ (.tail _ (.head _)))
    · rcases List.mem_cons.mp hp with rfl | hp
      · exact .head _
      · rcases List.mem_cons.mp hp with rfl | hp
        · exact .tail _ (.head _)
        · exact .tail _ (.tail _ (.tail _ (.tail _ hp)))
/-- what a turn of the parse leaves -/
theorem parse_turn {fs : List Fm} {its : List Item} {rs xs : List Addr} {own own' : List (Addr × Obj)} {I ia x dx Da : Addr} {oI : Obj} {nn nn2 nd j n W : Nat} {k : Kd} {pre sp : Bool} {es : List DictEntry} {nm : Value} {Pm : Addr → Prop}
    (hoff : PySem.W.OwnOff own' [ia]) (hD : (Da, listOf (rs.map Value.ref).toArray nd) ∈ own') (hsub : ∀ p ∈ own, p ∈ own') (hxl : xs.length = j)
    (hinf : ∀ (j : Nat) (f : Fm) (x : Addr), fs[j]? = some f → xs[j]? = some x → ∃ nm, InfoIn own' x f.it.k f.it.W nm ∧ (f.it.k.pad = false → ∃ t, nm = .int (cnt its j : Nat) t))
    (hf : fs[j]? = some ⟨⟨k, W⟩, pre, sp⟩) (hes : InfoEs k W nm es) (hnm : k.pad = false → ∃ t, nm = .int (cnt its j : Nat) t) (l1 : ∀ p ∈ own', p.1 < dx) (l2 : @LT.lt Nat _ dx x) (l3 : @LT.lt Nat _ I dx) (l4 : @LT.lt Nat _ ia dx)
    (hI : ∀ p ∈ (ia, listOf (xs.map Value.ref).toArray nn) :: own', p.1 ≠ I) (hm : Pm ia) :
    ∃ nx, (I, oI) :: (ia, listOf (xs.map Value.ref ++ [Value.ref x]).toArray nn2) :: (x, instObj k.cls dx) :: (dx, dictOf es n) :: own' = (I, oI) :: nx ∧ (∀ p ∈ nx, p.1 ≠ I) ∧
      ∃ (ia' : Addr) (xs' : List Addr) (nn' : Nat) (own'' : List (Addr × Obj)), nx = (ia', listOf (xs'.map Value.ref).toArray nn') :: own'' ∧ PySem.W.OwnOff own'' [ia'] ∧ (Da, listOf (rs.map Value.ref).toArray nd) ∈ own'' ∧ (∀ p ∈ own, p ∈ own'') ∧ xs'.length = j + 1 ∧
        (∀ (j : Nat) (f : Fm) (x : Addr), fs[j]? = some f → xs'[j]? = some x → ∃ nm, InfoIn own'' x f.it.k f.it.W nm ∧ (f.it.k.pad = false → ∃ t, nm = .int (cnt its j : Nat) t)) ∧ Pm ia' := by
  have hx : x ≠ I := fun e => by rw [e] at l2; exact Nat.lt_asymm l3 l2
  have hd : dx ≠ I := fun e => by rw [e] at l3; exact Nat.lt_irrefl _ l3
  refine ⟨_, rfl, ?_, ia, xs ++ [x], nn2, (x, instObj k.cls dx) :: (dx, dictOf es n) :: own', ?_, ?_, .tail _ (.tail _ hD), fun p hp => .tail _ (.tail _ (hsub p hp)), ?_, ?_, hm⟩
  · intro p hp
    rcases List.mem_cons.mp hp with rfl | hp
    · exact hI (ia, listOf (xs.map Value.ref).toArray nn) (.head _)
    · rcases List.mem_cons.mp hp with rfl | hp
      · exact hx
      · rcases List.mem_cons.mp hp with rfl | hp
        · exact hd
        · exact hI p (.tail _ hp)
  · rw [List.map_append]; rfl
  · intro p hp b hb
    rw [List.mem_singleton.mp hb]
    rcases List.mem_cons.mp hp with rfl | hp
    · exact fun e => by
        have e : x = ia := e
        rw [e] at l2; exact Nat.lt_asymm l4 l2
    · rcases List.mem_cons.mp hp with rfl | hp
      · exact fun e => by
          have e : dx = ia := e
          rw [e] at l4; exact Nat.lt_irrefl _ l4
      · exact hoff p hp ia (.head _)
  · rw [List.length_append, hxl]; rfl
  · intro i f y hfi hy
    rcases Nat.lt_or_ge i xs.length with hlt | hge
    · rw [List.getElem?_append_left hlt] at hy
      obtain ⟨nm', a, b⟩ := hinf i f y hfi hy
      exact ⟨nm', a.mono fun p hp => .tail _ (.tail _ hp), b⟩
    · rw [List.getElem?_append_right hge] at hy
      have h0 : i - xs.length = 0 := by
        rcases Nat.eq_zero_or_pos (i - xs.length) with h | h
        · exact h
        · rw [List.getElem?_eq_none (by simp only [List.length_cons, List.length_nil]; omega)] at hy; cases hy
      have hi : i = j := by omega
      rw [h0] at hy
      cases hy
      subst hi
      rw [hf] at hfi
      cases hfi
      exact ⟨nm, ⟨dx, n, es, .head _, .tail _ (.head _), hes⟩, hnm⟩
/-- what the parse hands back -/
def ParseOut (fs : List Fm) (v : Value) (own : List (Addr × Obj)) : Prop :=
  ∃ (tup ia : Addr) (xs : List Addr) (nn nt : Nat) (tb : Tok), v = .ref tup ∧ (tup, ({ cls := .type "tuple", data := .seq [Value.ref ia, .str (RS.tx [62]) tb].toArray nt } : Obj)) ∈ own ∧ (ia, listOf (xs.map Value.ref).toArray nn) ∈ own ∧ xs.length = fs.length ∧
    ∀ (j : Nat) (f : Fm) (x : Addr), fs[j]? = some f → xs[j]? = some x → ∃ nm, InfoIn own x f.it.k f.it.W nm ∧ (f.it.k.pad = false → ∃ t, nm = .int (cnt (fs.map (·.it)) j : Nat) t)
end
local macro_rules | `(tactic| k_all) => `(tactic| exact all_lt (by assumption) (by omega))
local macro_rules | `(tactic| walk_at "subscriptTail") => `(tactic| k_dflt ((k_here; (with_reducible show wpAny _ _ (subscriptTail _ _ (Value.ref _) (Value.int _ _)) _ _ _); refine' RT.item_tup ?ht ?h0 ?hf ?hx ?_; (case ht => first | exact isTup_of (by k_asm) (by k_mem) | exact isTup_of (by k_asm) (List.Mem.tail _ (List.Mem.tail _ (by assumption)))); (case h0 => omega); (case hf => omega); (case hx => exact rfl))))
local macro_rules | `(tactic| walk_at "subscriptTail Name Constant ref int") => `(tactic| k_dflt ((k_here; (with_reducible show wpAny _ _ (subscriptTail _ _ (Value.ref _) (Value.int _ _)) _ _ _); refine' RT.item_tup ?ht ?h0 ?hf ?hx ?_; (case ht => first | exact isTup_of (by k_asm) (by k_mem) | exact isTup_of (by k_asm) (List.Mem.tail _ (List.Mem.tail _ (by assumption)))); (case h0 => omega); (case hf => omega); (case hx => exact rfl))))
local macro_rules | `(tactic| walk_at "call type:int") => `(tactic| k_dflt (((with_reducible show wpAny _ _ (call (Value.type "int") [Value.str _ _]) _ _ _); refine' PySem.W.KIN.call_text ?hn ?hl ?_; (case hn => assumption); (case hl => walk_at "mine le"))))
local macro_rules | `(tactic| walk_at "call builtin:list.append") => `(tactic| k_dflt ((k_here; (with_reducible show wpAny _ _ (call (Value.builtin _) [Value.ref _, _]) _ _ _); k_dflt (refine' append_K ?k1 ?k2 ?k3 ?_ ?z; (case k1 => k_asm); (case k2 => k_asm); (case k3 => k_upd); (case z => assumption); k_whole); intro h' F' N'; (try k_sweep))))
-- F7
section
theorem Room.under {A : Around} {n : Nat} (H : Room A (n + 1)) (C : Addr) (pos : List Value) (kw : List (PySem.Str × Value)) : Room (A.under (.builtin "type.__call__" ⟨.ref C :: pos, kw⟩)) n :=
  ⟨H.hh, by
    have h1 := H.hd
    show A.depth + 1 + _ < _
    omega, by
    have h1 := H.hu
    show A.units + 1 + _ < _
    omega⟩
section
variable {prog : Program} {w : World} {A : Around} {s : Shared} {K : Frag} {h₀ : Heap} {L : Addr} {m : PySem.Str → Option Value} {news : List (Addr × Obj)} {C fI : Addr}
/-- a class called whose __init__ is a def with a theorem -/
theorem use_cls {pos : List Value} {kw : List (PySem.Str × Value)} {Q : Value → Shared → Prop} {E : Value → Shared → Prop} {P : Obj → Prop}
    (F : Fr h₀ L s.heap m) (N : News h₀ L s.heap news) (X₀ : K.In h₀) (hm : makesIn K C = true) (hi : findIn K (.ref C) "__init__" = some (some (.ref fI))) (hf : isFn K (.ref fI) = true)
    (h : ∀ (s₁ : Shared) g x dx, (∀ b o, h₀.get? b = some o → g.get? b = some o) → (∀ b o, g.get? b = some o → s₁.heap.get? b = some o) → g.objs.size ≤ s₁.heap.objs.size → (∀ p ∈ [(x, instObj C dx), (dx, dictOf [] 0)], s₁.heap.get? p.1 = some p.2 ∧ g.get? p.1 = none) → dx < x →
      codeAny (model prog w) (A.under (.builtin "type.__call__" ⟨.ref C :: pos, kw⟩)) (.call (.ref fI) ⟨.ref x :: pos, kw⟩) (IRet s₁ g fun h' => h'.get? x = some (instObj C dx) ∧ ∃ o, h'.get? dx = some o ∧ P o) s₁)
    (k : ∀ x dx h' tk' o, Fr h₀ L h' m → News h₀ L h' ((x, instObj C dx) :: (dx, o) :: news) → (∀ p ∈ news, p.1 < dx) → dx < x → P o → Q (.ref x) { s with heap := h', toks := tk' }) :
    wpAny (model prog w) A (call (.ref C) pos kw) Q E s := by
  refine call_cls F X₀ N hm hi hf fun x dx h₁ F₁ N₁ l1 l2 => ?_
  have Nx := N₁ (x, instObj C dx) (.head _)
  have Nd := N₁ (dx, dictOf [] 0) (.tail _ (.head _))
  have st : ∀ b o, h₀.get? b = some o → b ∉ [x, dx] := by
    intro b o e hb
    rcases List.mem_cons.mp hb with rfl | hb
    · exact nomatch e.symm.trans Nx.2.2
    · rcases List.mem_cons.mp hb with rfl | hb
      · exact nomatch e.symm.trans Nd.2.2
      · exact nomatch hb
  refine codeAny_mono (h { s with heap := h₁ } (hideAll h₁ [x, dx]) x dx (fun b o e => hideAll_get _ (F₁.keep b o e) (st b o e)) (fun b o e => of_hideAll _ e) (Nat.le_of_eq (hideAll_size _ _)) ?_ l2) ?_
  · intro p hp
    rcases List.mem_cons.mp hp with rfl | hp
    · exact ⟨Nx.1, hideAll_none _ (.head _)⟩
    · rcases List.mem_cons.mp hp with rfl | hp
      · exact ⟨Nd.1, hideAll_none _ (.tail _ (.head _))⟩
      · exact nomatch hp
  · rintro r s' ⟨h', tk', rfl, rfl, kk, hx', o, ho, hP⟩
    have keepN : ∀ b o, h₁.get? b = some o → b ≠ x → b ≠ dx → h'.get? b = some o := fun b o e n1 n2 => kk b o (hideAll_get _ e (by simp [n1, n2]))
    refine ⟨rfl, k x dx h' tk' o (Fr.but F₁ (fun b o e => ?_) fun o e => keepN _ _ e (fun c => Nx.2.1 c.symm) (fun c => Nd.2.1 c.symm)) ?_ l1 l2 hP⟩
    · have := st b o e
      exact keepN b o (F₁.keep b o e) (fun c => this (by simp [c])) (fun c => this (by simp [c]))
    · intro p hp
      rcases List.mem_cons.mp hp with rfl | hp
      · exact ⟨hx', Nx.2⟩
      · rcases List.mem_cons.mp hp with rfl | hp
        · exact ⟨ho, Nd.2⟩
        · have := N₁ p (.tail _ (.tail _ hp))
          have hlt := l1 p hp
          refine ⟨keepN _ _ this.1 ?_ ?_, this.2⟩
          · intro c; rw [c] at hlt; exact Nat.lt_asymm hlt l2
          · intro c; rw [c] at hlt; exact Nat.lt_irrefl _ hlt
end
/-- the three first entries -/
def BaseEs (W : Nat) (nm : Value) (o : Obj) : Prop := ∃ a1 t1 u1 a2 t2 a3 t3, o = dictOf [⟨a1, .str (PySem.Str.ofString "size") t1, .int (W : Int) u1⟩, ⟨a2, .str (PySem.Str.ofString "name") t2, nm⟩, ⟨a3, .str (PySem.Str.ofString "endianness") t3, .none⟩] 3
variable {w : World} {A : Around} {s : Shared}
theorem info_init_spec {g : Heap} (B : Bas w g) (H : Room A 2) (C : Addr) (hC : C = 132 ∨ C = 167 ∨ C = 196 ∨ C = 298 ∨ C = 383) (x dx : Addr) (W : Nat) (t : Tok) (nm : Value) (kp : ∀ b o, g.get? b = some o → s.heap.get? b = some o) (kq : g.objs.size ≤ s.heap.objs.size) (hlt : dx < x)
    (kr : ∀ p ∈ [(x, instObj C dx), (dx, dictOf [] 0)], s.heap.get? p.1 = some p.2 ∧ g.get? p.1 = none) :
    codeAny (model PySem.Challenge.pw_bk5003_01 w) A (.call (.ref 92) ⟨[.ref x, .int (W : Int) t, nm], []⟩) (IRet s g fun h' => h'.get? x = some (instObj C dx) ∧ ∃ o, h'.get? dx = some o ∧ BaseEs W nm o) s := by
  obtain ⟨X, p, loose, mean, mg, mb, T⟩ := B
  k_lt2 hlt
  rcases hC with rfl | rfl | rfl | rfl | rfl
  all_goals ((k_dflt (refine' enterG (binds := [(PySem.Str.ofString "self", .ref x), (PySem.Str.ofString "size", .int (W : Int) t), (PySem.Str.ofString "name", nm)]) ?k1 ?k2 ?kp ?kq ?kr ?k6 ?k7 ?k8 ?k9 ?kB ?_ ?c2 ?c3 ?c4 ?c5; (case k1 => k_asm); (case k2 => exact Top.nolimit (by assumption)); (case kp => first | assumption | exact fun _ _ e => e); (case kq => first | assumption | exact Nat.le_refl _); (case kr => first | assumption | exact (fun _ h => nomatch h : ∀ p ∈ ([] : List (Addr × Obj)), _)); (case k6 => k_is); (case k7 => k_is); (case k8 => first | exact Nat.lt_of_le_of_lt (Nat.le_add_right _ _) (Room.hd (by assumption)) | (have hR9 := Room.hd (by assumption); omega)); (case k9 => first | exact hb9 _ _ _ _ (by k_is) | exact BindsTo.of_eq rfl | exact binds_K (by k_in) rfl (by k_is) rfl rfl rfl | exact binds_K (Frag.In.keeps (by k_asm) (by assumption)) rfl (by k_is) rfl rfl rfl); (case c5 => decide); (case kB => exact locs rfl); (case c2 => exact rfl); (case c3 => exact rfl); (case c4 => exact rfl)); intro L' h' F' N' l1; (try k_lt l1); (try dsimp only); (try k_fold)))
  all_goals (walk_at "mine go")
  all_goals ((rename News _ _ _ _ => kN); exact ⟨_, _, rfl, rfl, Fr.keep (by assumption), (kN _ (.head _)).1, _, (kN _ (.tail _ (.head _))).1, _, _, _, _, _, _, _, rfl⟩)
theorem info_init_p_spec {g : Heap} (B : Bas w g) (H : Room A 2) (C : Addr) (hC : C = 329 ∨ C = 348) (x dx : Addr) (W : Nat) (t : Tok) (kp : ∀ b o, g.get? b = some o → s.heap.get? b = some o) (kq : g.objs.size ≤ s.heap.objs.size) (hlt : dx < x)
    (kr : ∀ p ∈ [(x, instObj C dx), (dx, dictOf [] 0)], s.heap.get? p.1 = some p.2 ∧ g.get? p.1 = none) :
    codeAny (model PySem.Challenge.pw_bk5003_01 w) A (.call (.ref 92) ⟨[.ref x, .int (W : Int) t], []⟩) (IRet s g fun h' => h'.get? x = some (instObj C dx) ∧ ∃ o, h'.get? dx = some o ∧ BaseEs W .none o) s := by
  obtain ⟨X, p, loose, mean, mg, mb, T⟩ := B
  k_lt2 hlt
  rcases hC with rfl | rfl
  all_goals ((k_dflt (refine' enterG (binds := [(PySem.Str.ofString "self", .ref x), (PySem.Str.ofString "size", .int (W : Int) t), (PySem.Str.ofString "name", .none)]) ?k1 ?k2 ?kp ?kq ?kr ?k6 ?k7 ?k8 ?k9 ?kB ?_ ?c2 ?c3 ?c4 ?c5; (case k1 => k_asm); (case k2 => exact Top.nolimit (by assumption)); (case kp => first | assumption | exact fun _ _ e => e); (case kq => first | assumption | exact Nat.le_refl _); (case kr => first | assumption | exact (fun _ h => nomatch h : ∀ p ∈ ([] : List (Addr × Obj)), _)); (case k6 => k_is); (case k7 => k_is); (case k8 => first | exact Nat.lt_of_le_of_lt (Nat.le_add_right _ _) (Room.hd (by assumption)) | (have hR9 := Room.hd (by assumption); omega)); (case k9 => first | exact hb9 _ _ _ _ (by k_is) | exact BindsTo.of_eq rfl | exact binds_K (by k_in) rfl (by k_is) rfl rfl rfl | exact binds_K (Frag.In.keeps (by k_asm) (by assumption)) rfl (by k_is) rfl rfl rfl); (case c5 => decide); (case kB => exact locs rfl); (case c2 => exact rfl); (case c3 => exact rfl); (case c4 => exact rfl)); intro L' h' F' N' l1; (try k_lt l1); (try dsimp only); (try k_fold)))
  all_goals (walk_at "mine go")
  all_goals ((rename News _ _ _ _ => kN); exact ⟨_, _, rfl, rfl, Fr.keep (by assumption), (kN _ (.head _)).1, _, (kN _ (.tail _ (.head _))).1, _, _, _, _, _, _, _, rfl⟩)
theorem Bas.of {h₀ g : Heap} {p : Program} {loose : List PySem.Str} {mean : ExcName → Option Value} {mg mb : PySem.Str → Option Value} (X : (Mine.hd.heap_39 w.params).In h₀) (T : Top p loose mean mg mb h₀) (k : ∀ b o, h₀.get? b = some o → g.get? b = some o) : Bas w g :=
  ⟨X.keeps k, p, loose, mean, mg, mb, T.keeps k⟩
end
local macro_rules | `(tactic| walk_at "call ref") => `(tactic| k_dflt ((k_here; k_dflt (refine' use_init2 ?F ?N ?h1 ?h2 ?h3 ?h4 ?sp ?_; (case F => k_asm); (case N => k_asm); (case h1 => k_ne); (case h2 => k_ne); (case h3 => k_ne); (case h4 => k_ne); (case sp => (intro g' kk' kp' kq' kr'; refine' info_init_spec (Bas.of ?X ?T kk') ?H _ ?hC _ _ _ _ _ kp' kq' ?hlt kr'; (case X => assumption); (case T => assumption); (case H => walk_at "mine room"); (case hC => decide); (case hlt => assumption)))); intro h' tk' o' F' N' pv'; k_sweep; (obtain ⟨_, _, _, _, _, _, _, e'⟩ := pv'; subst e'); (try dsimp only); (try k_fold))))
-- F8
section
def SEs (W : Nat) (nm : Value) (o : Obj) : Prop := ∃ a1 t1 u1 a2 t2 a3 t3 a4 t4 u4 a5 t5 u5, o = dictOf [⟨a1, .str (PySem.Str.ofString "size") t1, .int (W : Int) u1⟩, ⟨a2, .str (PySem.Str.ofString "name") t2, nm⟩, ⟨a3, .str (PySem.Str.ofString "endianness") t3, .none⟩, ⟨a4, .str (PySem.Str.ofString "minimum") t4, .int (-2 ^ (W - 1)) u4⟩, ⟨a5, .str (PySem.Str.ofString "maximum") t5, .int (2 ^ (W - 1) - 1) u5⟩] 5
variable {w : World} {A : Around} {s : Shared}
theorem s_init_spec {g : Heap} (B : Bas w g) (H : Room A 4) (x dx : Addr) (W : Nat) (t : Tok) (nm : Value) (hw : 1 ≤ W) (hw2 : W ≤ 450) (kp : ∀ b o, g.get? b = some o → s.heap.get? b = some o) (kq : g.objs.size ≤ s.heap.objs.size) (hlt : dx < x)
    (kr : ∀ p ∈ [(x, instObj 132 dx), (dx, dictOf [] 0)], s.heap.get? p.1 = some p.2 ∧ g.get? p.1 = none) :
    codeAny (model PySem.Challenge.pw_bk5003_01 w) A (.call (.ref 115) ⟨[.ref x, .int (W : Int) t, nm], []⟩) (IRet s g fun h' => h'.get? x = some (instObj 132 dx) ∧ ∃ o, h'.get? dx = some o ∧ SEs W nm o) s := by
  obtain ⟨X, p, loose, mean, mg, mb, T⟩ := B
  k_lt2 hlt
  (k_dflt (refine' enterS (binds := [(PySem.Str.ofString "self", .ref x), (PySem.Str.ofString "size", .int (W : Int) t), (PySem.Str.ofString "name", nm)]) ?k1 ?k2 ?kp ?kq ?kr ?k6 ?k7 ?k8 ?k9 ?kB ?_ ?c2 ?c3 ?c4 ?c5; (case k1 => k_asm); (case k2 => exact Top.nolimit (by assumption)); (case kp => first | assumption | exact fun _ _ e => e); (case kq => first | assumption | exact Nat.le_refl _); (case kr => first | assumption | exact (fun _ h => nomatch h : ∀ p ∈ ([] : List (Addr × Obj)), _)); (case k6 => k_is); (case k7 => k_is); (case k8 => first | exact Nat.lt_of_le_of_lt (Nat.le_add_right _ _) (Room.hd (by assumption)) | (have hR9 := Room.hd (by assumption); omega)); (case k9 => first | exact hb9 _ _ _ _ (by k_is) | exact BindsTo.of_eq rfl | exact binds_K (by k_in) rfl (by k_is) rfl rfl rfl | exact binds_K (Frag.In.keeps (by k_asm) (by assumption)) rfl (by k_is) rfl rfl rfl); (case c5 => decide); (case kB => exact locs rfl); (case c2 => exact rfl); (case c3 => exact rfl); (case c4 => exact rfl)); intro L' h' F' N' l1; (try k_lt l1); (try dsimp only); (try k_fold))
  refine ks_wpAt_execs_cons (ks_wpAt_Expr_any (ks_wpAt_MethodCall ?_))
  walk_at "mine go"
  (rename News _ _ _ _ => kN)
  simp only [show ((W : Int) - 1).toNat = W - 1 by omega, Int.neg_neg] at kN
  exact ⟨_, _, rfl, rfl, Fr.keep (by assumption), (kN _ (.tail _ (.tail _ (.head _)))).1, _, (kN _ (.tail _ (.tail _ (.tail _ (.head _))))).1, _, _, _, _, _, _, _, _, _, _, _, _, _, rfl⟩
def UEs (W : Nat) (nm : Value) (o : Obj) : Prop := ∃ a1 t1 u1 a2 t2 a3 t3 a4 t4 u4, o = dictOf [⟨a1, .str (PySem.Str.ofString "size") t1, .int (W : Int) u1⟩, ⟨a2, .str (PySem.Str.ofString "name") t2, nm⟩, ⟨a3, .str (PySem.Str.ofString "endianness") t3, .none⟩, ⟨a4, .str (PySem.Str.ofString "maximum") t4, .int (2 ^ W - 1) u4⟩] 4
theorem u_init_spec {g : Heap} (B : Bas w g) (H : Room A 4) (C : Addr) (hC : C = 167 ∨ C = 196) (x dx : Addr) (W : Nat) (t : Tok) (nm : Value) (hw : 1 ≤ W) (hw2 : W ≤ 450) (kp : ∀ b o, g.get? b = some o → s.heap.get? b = some o) (kq : g.objs.size ≤ s.heap.objs.size) (hlt : dx < x)
    (kr : ∀ p ∈ [(x, instObj C dx), (dx, dictOf [] 0)], s.heap.get? p.1 = some p.2 ∧ g.get? p.1 = none) :
    codeAny (model PySem.Challenge.pw_bk5003_01 w) A (.call (.ref 150) ⟨[.ref x, .int (W : Int) t, nm], []⟩) (IRet s g fun h' => h'.get? x = some (instObj C dx) ∧ ∃ o, h'.get? dx = some o ∧ UEs W nm o) s := by
  obtain ⟨X, p, loose, mean, mg, mb, T⟩ := B
  k_lt2 hlt
  rcases hC with rfl | rfl
  all_goals ((k_dflt (refine' enterS (binds := [(PySem.Str.ofString "self", .ref x), (PySem.Str.ofString "size", .int (W : Int) t), (PySem.Str.ofString "name", nm)]) ?k1 ?k2 ?kp ?kq ?kr ?k6 ?k7 ?k8 ?k9 ?kB ?_ ?c2 ?c3 ?c4 ?c5; (case k1 => k_asm); (case k2 => exact Top.nolimit (by assumption)); (case kp => first | assumption | exact fun _ _ e => e); (case kq => first | assumption | exact Nat.le_refl _); (case kr => first | assumption | exact (fun _ h => nomatch h : ∀ p ∈ ([] : List (Addr × Obj)), _)); (case k6 => k_is); (case k7 => k_is); (case k8 => first | exact Nat.lt_of_le_of_lt (Nat.le_add_right _ _) (Room.hd (by assumption)) | (have hR9 := Room.hd (by assumption); omega)); (case k9 => first | exact hb9 _ _ _ _ (by k_is) | exact BindsTo.of_eq rfl | exact binds_K (by k_in) rfl (by k_is) rfl rfl rfl | exact binds_K (Frag.In.keeps (by k_asm) (by assumption)) rfl (by k_is) rfl rfl rfl); (case c5 => decide); (case kB => exact locs rfl); (case c2 => exact rfl); (case c3 => exact rfl); (case c4 => exact rfl)); intro L' h' F' N' l1; (try k_lt l1); (try dsimp only); (try k_fold)))
  all_goals (refine ks_wpAt_execs_cons (ks_wpAt_Expr_any (ks_wpAt_MethodCall ?_)))
  all_goals (walk_at "mine go")
  all_goals ((rename News _ _ _ _ => kN); (try simp only [Int.toNat_natCast] at kN); exact ⟨_, _, rfl, rfl, Fr.keep (by assumption), (kN _ (.tail _ (.tail _ (.head _)))).1, _, (kN _ (.tail _ (.tail _ (.tail _ (.head _))))).1, _, _, _, _, _, _, _, _, _, _, rfl⟩)
def TEs (W : Nat) (nm v4 v5 : Value) (o : Obj) : Prop := ∃ a1 t1 u1 a2 t2 a3 t3 a4 t4 a5 t5, o = dictOf [⟨a1, .str (PySem.Str.ofString "size") t1, .int (W : Int) u1⟩, ⟨a2, .str (PySem.Str.ofString "name") t2, nm⟩, ⟨a3, .str (PySem.Str.ofString "endianness") t3, .none⟩, ⟨a4, .str (PySem.Str.ofString "encoding") t4, v4⟩, ⟨a5, .str (PySem.Str.ofString "errors") t5, v5⟩] 5
theorem t_init_spec {g : Heap} (B : Bas w g) (H : Room A 4) (x dx : Addr) (W : Nat) (t : Tok) (nm v4 v5 : Value) (kp : ∀ b o, g.get? b = some o → s.heap.get? b = some o) (kq : g.objs.size ≤ s.heap.objs.size) (hlt : dx < x)
    (kr : ∀ p ∈ [(x, instObj 383 dx), (dx, dictOf [] 0)], s.heap.get? p.1 = some p.2 ∧ g.get? p.1 = none) :
    codeAny (model PySem.Challenge.pw_bk5003_01 w) A (.call (.ref 366) ⟨[.ref x, .int (W : Int) t, nm, v4, v5], []⟩) (IRet s g fun h' => h'.get? x = some (instObj 383 dx) ∧ ∃ o, h'.get? dx = some o ∧ TEs W nm v4 v5 o) s := by
  obtain ⟨X, p, loose, mean, mg, mb, T⟩ := B
  k_lt2 hlt
  (k_dflt (refine' enterS (binds := [(PySem.Str.ofString "self", .ref x), (PySem.Str.ofString "size", .int (W : Int) t), (PySem.Str.ofString "name", nm), (PySem.Str.ofString "encoding", v4), (PySem.Str.ofString "errors", v5)]) ?k1 ?k2 ?kp ?kq ?kr ?k6 ?k7 ?k8 ?k9 ?kB ?_ ?c2 ?c3 ?c4 ?c5; (case k1 => k_asm); (case k2 => exact Top.nolimit (by assumption)); (case kp => first | assumption | exact fun _ _ e => e); (case kq => first | assumption | exact Nat.le_refl _); (case kr => first | assumption | exact (fun _ h => nomatch h : ∀ p ∈ ([] : List (Addr × Obj)), _)); (case k6 => k_is); (case k7 => k_is); (case k8 => first | exact Nat.lt_of_le_of_lt (Nat.le_add_right _ _) (Room.hd (by assumption)) | (have hR9 := Room.hd (by assumption); omega)); (case k9 => first | exact hb9 _ _ _ _ (by k_is) | exact BindsTo.of_eq rfl | exact binds_K (by k_in) rfl (by k_is) rfl rfl rfl | exact binds_K (Frag.In.keeps (by k_asm) (by assumption)) rfl (by k_is) rfl rfl rfl); (case c5 => decide); (case kB => exact locs rfl); (case c2 => exact rfl); (case c3 => exact rfl); (case c4 => exact rfl)); intro L' h' F' N' l1; (try k_lt l1); (try dsimp only); (try k_fold))
  refine ks_wpAt_execs_cons (ks_wpAt_Expr_any (ks_wpAt_MethodCall ?_))
  walk_at "mine go"
  (rename News _ _ _ _ => kN); exact ⟨_, _, rfl, rfl, Fr.keep (by assumption), (kN _ (.tail _ (.tail _ (.head _)))).1, _, (kN _ (.tail _ (.tail _ (.tail _ (.head _))))).1, _, _, _, _, _, _, _, _, _, _, _, rfl⟩
end
local macro_rules | `(tactic| walk_at "call ref") => `(tactic| k_dflt ((k_here; (with_reducible show wpAny _ _ (call (Value.ref 132) _) _ _ _); k_dflt (refine' use_cls ?F ?N ?X ?hm ?hi ?hf ?sp ?_; (case F => k_asm); (case N => k_asm); (case X => assumption); (case hm => k_is); (case hi => k_is); (case hf => k_is); (case sp => (intro s1' g' x' dx' kk' kp' kq' kr' lt'; refine' s_init_spec (Bas.of ?X ?T kk') ?H _ _ _ _ _ ?hw ?hw2 kp' kq' lt' kr'; (case X => assumption); (case T => assumption); (case H => exact Room.le (Room.under (Room.deeper (by assumption) _) _ _ _) (by decide)); (case hw => assumption); (case hw2 => omega)))); intro x' dx' h' tk' o' F' N' l1' l2' pv'; k_sweep; (rw [List.forall_mem_cons, List.forall_mem_cons] at l1'); (obtain ⟨l1a, l1b, l1c⟩ := l1'); (replace l1a := ltN l1a); (replace l1b := ltN l1b); (replace l2' := ltN l2'); (obtain ⟨_, _, _, _, _, _, _, _, _, _, _, _, _, e'⟩ := pv'; subst e'); (try dsimp only); (try k_fold))))
local macro_rules | `(tactic| walk_at "call ref") => `(tactic| k_dflt ((k_here; (with_reducible show wpAny _ _ (call (Value.ref 167) _) _ _ _); k_dflt (refine' use_cls ?F ?N ?X ?hm ?hi ?hf ?sp ?_; (case F => k_asm); (case N => k_asm); (case X => assumption); (case hm => k_is); (case hi => k_is); (case hf => k_is); (case sp => (intro s1' g' x' dx' kk' kp' kq' kr' lt'; refine' u_init_spec (Bas.of ?X ?T kk') ?H 167 (.inl rfl) _ _ _ _ _ ?hw ?hw2 kp' kq' lt' kr'; (case X => assumption); (case T => assumption); (case H => exact Room.le (Room.under (Room.deeper (by assumption) _) _ _ _) (by decide)); (case hw => assumption); (case hw2 => omega)))); intro x' dx' h' tk' o' F' N' l1' l2' pv'; k_sweep; (rw [List.forall_mem_cons, List.forall_mem_cons] at l1'); (obtain ⟨l1a, l1b, l1c⟩ := l1'); (replace l1a := ltN l1a); (replace l1b := ltN l1b); (replace l2' := ltN l2'); (obtain ⟨_, _, _, _, _, _, _, _, _, _, e'⟩ := pv'; subst e'); (try dsimp only); (try k_fold))))
local macro_rules | `(tactic| walk_at "call ref") => `(tactic| k_dflt ((k_here; (with_reducible show wpAny _ _ (call (Value.ref 196) _) _ _ _); k_dflt (refine' use_cls ?F ?N ?X ?hm ?hi ?hf ?sp ?_; (case F => k_asm); (case N => k_asm); (case X => assumption); (case hm => k_is); (case hi => k_is); (case hf => k_is); (case sp => (intro s1' g' x' dx' kk' kp' kq' kr' lt'; refine' u_init_spec (Bas.of ?X ?T kk') ?H 196 (.inr rfl) _ _ _ _ _ ?hw ?hw2 kp' kq' lt' kr'; (case X => assumption); (case T => assumption); (case H => exact Room.le (Room.under (Room.deeper (by assumption) _) _ _ _) (by decide)); (case hw => assumption); (case hw2 => omega)))); intro x' dx' h' tk' o' F' N' l1' l2' pv'; k_sweep; (rw [List.forall_mem_cons, List.forall_mem_cons] at l1'); (obtain ⟨l1a, l1b, l1c⟩ := l1'); (replace l1a := ltN l1a); (replace l1b := ltN l1b); (replace l2' := ltN l2'); (obtain ⟨_, _, _, _, _, _, _, _, _, _, e'⟩ := pv'; subst e'); (try dsimp only); (try k_fold))))
local macro_rules | `(tactic| walk_at "call ref") => `(tactic| k_dflt ((k_here; (with_reducible show wpAny _ _ (call (Value.ref 298) _) _ _ _); k_dflt (refine' use_cls ?F ?N ?X ?hm ?hi ?hf ?sp ?_; (case F => k_asm); (case N => k_asm); (case X => assumption); (case hm => k_is); (case hi => k_is); (case hf => k_is); (case sp => (intro s1' g' x' dx' kk' kp' kq' kr' lt'; refine' info_init_spec (Bas.of ?X ?T kk') ?H 298 (by decide) _ _ _ _ _ kp' kq' lt' kr'; (case X => assumption); (case T => assumption); (case H => exact Room.le (Room.under (Room.deeper (by assumption) _) _ _ _) (by decide))))); intro x' dx' h' tk' o' F' N' l1' l2' pv'; k_sweep; (rw [List.forall_mem_cons, List.forall_mem_cons] at l1'); (obtain ⟨l1a, l1b, l1c⟩ := l1'); (replace l1a := ltN l1a); (replace l1b := ltN l1b); (replace l2' := ltN l2'); (obtain ⟨_, _, _, _, _, _, _, e'⟩ := pv'; subst e'); (try dsimp only); (try k_fold))))
local macro_rules | `(tactic| walk_at "call ref") => `(tactic| k_dflt ((k_here; (with_reducible show wpAny _ _ (call (Value.ref 383) _) _ _ _); k_dflt (refine' use_cls ?F ?N ?X ?hm ?hi ?hf ?sp ?_; (case F => k_asm); (case N => k_asm); (case X => assumption); (case hm => k_is); (case hi => k_is); (case hf => k_is); (case sp => (intro s1' g' x' dx' kk' kp' kq' kr' lt'; refine' t_init_spec (Bas.of ?X ?T kk') ?H _ _ _ _ _ _ _ kp' kq' lt' kr'; (case X => assumption); (case T => assumption); (case H => exact Room.le (Room.under (Room.deeper (by assumption) _) _ _ _) (by decide))))); intro x' dx' h' tk' o' F' N' l1' l2' pv'; k_sweep; (rw [List.forall_mem_cons, List.forall_mem_cons] at l1'); (obtain ⟨l1a, l1b, l1c⟩ := l1'); (replace l1a := ltN l1a); (replace l1b := ltN l1b); (replace l2' := ltN l2'); (obtain ⟨_, _, _, _, _, _, _, _, _, _, _, e'⟩ := pv'; subst e'); (try dsimp only); (try k_fold))))
local macro_rules | `(tactic| walk_at "call ref") => `(tactic| k_dflt ((k_here; (with_reducible show wpAny _ _ (call (Value.ref 329) _) _ _ _); k_dflt (refine' use_cls ?F ?N ?X ?hm ?hi ?hf ?sp ?_; (case F => k_asm); (case N => k_asm); (case X => assumption); (case hm => k_is); (case hi => k_is); (case hf => k_is); (case sp => (intro s1' g' x' dx' kk' kp' kq' kr' lt'; refine' info_init_p_spec (Bas.of ?X ?T kk') ?H 329 (.inl rfl) _ _ _ _ kp' kq' lt' kr'; (case X => assumption); (case T => assumption); (case H => exact Room.le (Room.under (Room.deeper (by assumption) _) _ _ _) (by decide))))); intro x' dx' h' tk' o' F' N' l1' l2' pv'; k_sweep; (rw [List.forall_mem_cons, List.forall_mem_cons] at l1'); (obtain ⟨l1a, l1b, l1c⟩ := l1'); (replace l1a := ltN l1a); (replace l1b := ltN l1b); (replace l2' := ltN l2'); (obtain ⟨_, _, _, _, _, _, _, e'⟩ := pv'; subst e'); (try dsimp only); (try k_fold))))
local macro_rules | `(tactic| walk_at "call ref") => `(tactic| k_dflt ((k_here; (with_reducible show wpAny _ _ (call (Value.ref 348) _) _ _ _); k_dflt (refine' use_cls ?F ?N ?X ?hm ?hi ?hf ?sp ?_; (case F => k_asm); (case N => k_asm); (case X => assumption); (case hm => k_is); (case hi => k_is); (case hf => k_is); (case sp => (intro s1' g' x' dx' kk' kp' kq' kr' lt'; refine' info_init_p_spec (Bas.of ?X ?T kk') ?H 348 (.inr rfl) _ _ _ _ kp' kq' lt' kr'; (case X => assumption); (case T => assumption); (case H => exact Room.le (Room.under (Room.deeper (by assumption) _) _ _ _) (by decide))))); intro x' dx' h' tk' o' F' N' l1' l2' pv'; k_sweep; (rw [List.forall_mem_cons, List.forall_mem_cons] at l1'); (obtain ⟨l1a, l1b, l1c⟩ := l1'); (replace l1a := ltN l1a); (replace l1b := ltN l1b); (replace l2' := ltN l2'); (obtain ⟨_, _, _, _, _, _, _, e'⟩ := pv'; subst e'); (try dsimp only); (try k_fold))))
-- F12
section
variable {w : World} {A : Around} {s : Shared}
theorem contains_gt (c : Nat) (h : (48 ≤ c ∧ c ≤ 57) ∨ c = 32) : Txt.contains (PySem.Str.ofString "><") (RS.tx [c]) = false := by
  have : ∀ c ∈ [48, 49, 50, 51, 52, 53, 54, 55, 56, 57, 32], Txt.contains (PySem.Str.ofString "><") (RS.tx [c]) = false := by decide +kernel
  exact this c (by simp only [List.mem_cons, List.not_mem_nil, or_false]; omega)
theorem fmt_last (fs : List Fm) (hne : fs ≠ []) : ∃ l c, SR.txs (fs.map Fm.tk) = l ++ [c] ∧ ((48 ≤ c ∧ c ≤ 57) ∨ c = 32) := by
  have e := List.dropLast_concat_getLast hne
  obtain ⟨f, hf⟩ : ∃ f, f = fs.getLast hne := ⟨_, rfl⟩
  rw [← hf] at e
  have e2 : SR.txs (fs.map Fm.tk) = SR.txs (fs.dropLast.map Fm.tk) ++ f.tk.tx := by
    rw [← e]; unfold SR.txs; simp
  have e3 : f.tk.tx = (f.tk.p ++ [f.it.k.sign]) ++ (digs f.it.W ++ (if f.sp then [32] else [])) := by
    unfold SR.Tk.tx Fm.tk; simp
  have hl : (digs f.it.W ++ (if f.sp then [32] else [])) ≠ [] := by
    intro h; exact digs_ne _ (List.append_eq_nil_iff.mp h).1
  refine ⟨SR.txs (fs.dropLast.map Fm.tk) ++ ((f.tk.p ++ [f.it.k.sign]) ++ (digs f.it.W ++ (if f.sp then [32] else [])).dropLast), (digs f.it.W ++ (if f.sp then [32] else [])).getLast hl, ?_, ?_⟩
  · rw [e2, e3]
    conv => lhs; rw [← List.dropLast_concat_getLast hl]
    simp only [List.append_assoc]
  · have := List.getLast_mem hl
    rcases List.mem_append.mp this with h | h
    · obtain ⟨c, hc, e⟩ := List.mem_map.mp h
      rw [← e]; exact .inl (toDigits_digit _ c hc)
    · have hm : ∀ x ∈ (if f.sp then [32] else []), x = 32 := by cases f.sp <;> simp
      exact .inr (hm _ h)
set_option maxHeartbeats 20000000 in
theorem parse_spec (B : Bas w s.heap) (H : Room A 8) (fs : List Fm) (eb : Bool) (t : Tok) (v4 v5 : Value) (hne : fs ≠ []) (hsz : (SR.txs (fs.map Fm.tk)).length ≤ 500) (hW : ∀ f ∈ fs, 1 ≤ f.it.W ∧ f.it.W ≤ 100) :
    codeAny (model PySem.Challenge.pw_bk5003_01 w) A (.call (.ref 390) ⟨[.str (RS.tx (fmtL fs ++ if eb then [62] else [])) t, .none, v4, v5], []⟩) (Ret s (ParseOut fs)) s := by
  obtain ⟨X, p, loose, mean, mg, mb, T⟩ := B
  have q4 : ∀ u ∈ fs.map Fm.tk, u.Ok := by
    intro u hu
    obtain ⟨f, _, rfl⟩ := List.mem_map.mp hu
    exact f.ok
  have q5 : (SR.txs (fs.map Fm.tk)).length ≤ 1000 := by omega
  have q6 : (fmtL fs).length ≤ 500 := hsz
  (k_dflt (refine' enter (binds := [(PySem.Str.ofString "fmt", .str (RS.tx (fmtL fs ++ if eb then [62] else [])) t), (PySem.Str.ofString "names", .none), (PySem.Str.ofString "text_encoding", v4), (PySem.Str.ofString "text_errors", v5)]) ?k1 ?k2 ?k6 ?k7 ?k8 ?k9 ?kB ?_ ?c2 ?c3 ?c4 ?c5; (case k1 => k_asm); (case k2 => exact Top.nolimit (by assumption)); (case k6 => k_is); (case k7 => k_is); (case k8 => first | exact Nat.lt_of_le_of_lt (Nat.le_add_right _ _) (Room.hd (by assumption)) | (have hR9 := Room.hd (by assumption); omega)); (case k9 => first | exact hb9 _ _ _ _ (by k_is) | exact BindsTo.of_eq rfl | exact binds_K (by k_in) rfl (by k_is) rfl rfl rfl); (case c5 => decide); (case kB => exact locs rfl); (case c2 => exact rfl); (case c3 => exact rfl); (case c4 => exact rfl)); intro L' h' F' N'; (try dsimp only); (try k_fold))
  refine cut_stmt (h₀ := s.heap) (L := L') (fun m nw => nw = [] ∧ (∃ t, m (PySem.Str.ofString "fmt") = some (.str (RS.tx (SR.txs (fs.map Fm.tk))) t)) ∧ (∃ t, m (PySem.Str.ofString "byte_order") = some (.str (RS.tx (if eb then [62] else [])) t)) ∧ m (PySem.Str.ofString "names") = some .none ∧ m (PySem.Str.ofString "text_encoding") = some v4 ∧ m (PySem.Str.ofString "text_errors") = some v5) ?_ ?_
  · cases eb with
    | true =>
      have q0 : (((RS.tx (fmtL fs ++ [62])).length : Int) != 0) = true := by rw [RS.tx_len, List.length_append]; exact bne_iff_ne.mpr (by simp only [List.length_cons, List.length_nil]; omega)
      have q1 : Txt.item (RS.tx (fmtL fs ++ [62])) (-1) = RS.tx [62] := RS.item_last _ _
      have q2 : Txt.contains (PySem.Str.ofString "><") (RS.tx [62]) = true := by decide +kernel
      have q3 : Txt.slice (RS.tx (fmtL fs ++ [62])) none (some (-1)) = RS.tx (SR.txs (fs.map Fm.tk)) := RS.to_last _ _
      simp only [if_true] at *
      walk_at "mine go"
      (rename Fr _ _ _ _ => kF'); (rename News _ _ _ _ => kN')
      refine Turn.mk' kF' kN' ?_
      exact ⟨rfl, ⟨_, by walk_at "mine look"⟩, ⟨_, by walk_at "mine look"⟩, by walk_at "mine look", by walk_at "mine look", by walk_at "mine look"⟩
    | false =>
      obtain ⟨l, c, hlc, hc⟩ := fmt_last fs hne
      have q8 : fmtL fs = l ++ [c] := hlc
      simp only [Bool.false_eq_true, if_false, List.append_nil] at *
      have q0 : (((RS.tx (fmtL fs)).length : Int) != 0) = true := by rw [q8, RS.tx_len, List.length_append]; exact bne_iff_ne.mpr (by simp only [List.length_cons, List.length_nil]; omega)
      have q1 : Txt.item (RS.tx (fmtL fs)) (-1) = RS.tx [c] := by rw [q8]; exact RS.item_last _ _
      have q7 : 1 ≤ (fmtL fs).length := by rw [q8, List.length_append]; simp
      have q2 := contains_gt c hc
      walk_at "mine go"
      (rename Fr _ _ _ _ => kF'); (rename News _ _ _ _ => kN')
      refine Turn.mk' kF' kN' ?_
      exact ⟨rfl, ⟨_, by walk_at "mine look"⟩, ⟨_, by walk_at "mine look"⟩, by walk_at "mine look", by walk_at "mine look", by walk_at "mine look"⟩
  clear F' N'
  rintro h tk m news F' N' ⟨rfl, ⟨tf, m1⟩, ⟨tb, m2⟩, m3, m4, m5⟩
  (try k_fold)
  walk_at "mine go"
  (rename Fr _ _ _ _ => kF); (rename News _ _ _ _ => kN)
  refine SR.findall_N kF kN X _ q4 rfl q5 ?_
  clear kF kN
  intro Da rs own h₂ tk₂ nd F₂ N₂ hO ld1 ld2 ld3
  k_sweep
  (try dsimp only)
  (try k_fold)
  walk_at "mine go"
  (rename Fr _ _ _ _ => kF); (rename News _ _ _ _ => kN)
  have hlen : rs.length = fs.length := by rw [hO.len, List.length_map]
  have hfl : ∀ l : List Fm, l.length ≤ (SR.txs (l.map Fm.tk)).length := by
    intro l
    induction l with
    | nil => exact Nat.le_refl _
    | cons u r ih =>
      show r.length + 1 ≤ (u.tk.tx ++ SR.txs (r.map Fm.tk)).length
      rw [List.length_append]
      unfold SR.Tk.tx
      simp only [List.length_append, List.length_cons]; omega
  have hfs := hfl fs
  refine LCg.ListComp_U (F₀ := kF) (by with_unfolding_all rfl) (by decide) (by rfl) (by decide) (by rfl) ?_
  walk_at "mine go"
  refine LCg.CompSrc.ledger H.hh kF kN (.head _) (by rw [List.size_toArray, List.length_map, hlen, sizeLine_eq]; omega) (fun g => ?_)
  refine comp_J (fun i ys nw => nw = _ ∧ StrsAre ys (((fs.take i).map fun f => RS.tx f.tk.tx))) ⟨rfl, .nil⟩ ?_ ?_
  · rintro i v I oI C oC D₂ m₂ ys nw h tk E' hi hv ⟨rfl, hys⟩ hC hx F N off ne
    rw [List.size_toArray, List.length_map, hlen] at hi
    obtain ⟨f, hf⟩ : ∃ f, fs[i]? = some f := ⟨_, List.getElem?_eq_getElem hi⟩
    obtain ⟨a, ha⟩ : ∃ a, rs[i]? = some a := ⟨_, List.getElem?_eq_getElem (by rw [hlen]; exact hi)⟩
    obtain rfl : v = .ref a := by
      rw [List.getElem?_toArray, List.getElem?_map, ha] at hv; exact (Option.some.inj hv).symm
    obtain ⟨t1, t2, t3, t4, hm⟩ := hO.get (i := i) (u := f.tk) ha (by rw [List.getElem?_map, hf]; rfl)
    have hT : IsTup h a #[.str (RS.tx f.tk.p) t1, .str (RS.tx [f.tk.c]) t2, .str (RS.tx f.tk.ds) t3, .str (RS.tx f.tk.ss) t4] := ⟨_, (N _ (.tail _ (.tail _ (.tail _ (.tail _ (List.mem_append_left _ hm)))))).1, rfl, _, rfl⟩
    have hi4 : StrsAre (#[.str (RS.tx f.tk.p) t1, .str (RS.tx [f.tk.c]) t2, .str (RS.tx f.tk.ds) t3, .str (RS.tx f.tk.ss) t4] : Array Value).toList ([f.tk.p, [f.tk.c], f.tk.ds, f.tk.ss].map RS.tx) := .cons _ _ (.cons _ _ (.cons _ _ (.cons _ _ .nil)))
    have hg : Txt.join (PySem.Str.ofString "") ([f.tk.p, [f.tk.c], f.tk.ds, f.tk.ss].map RS.tx) = RS.tx f.tk.tx := by
      rw [RS.glued_nil]
      refine congrArg RS.tx ?_
      unfold SR.Tk.tx; simp
    have hsum : f.tk.p.length + 1 + f.tk.ds.length + f.tk.ss.length ≤ 500 := by
      have h1 := SR.txs_split (tks := fs.map Fm.tk) (k := i) (t := f.tk) (by rw [List.getElem?_map, hf]; rfl)
      have h2 := congrArg List.length h1
      simp only [List.length_append] at h2
      unfold SR.Tk.tx at h2
      simp only [List.length_append, List.length_cons] at h2
      omega
    have hw : (([f.tk.p, [f.tk.c], f.tk.ds, f.tk.ss].map RS.tx).map (·.length)).sum + ([f.tk.p, [f.tk.c], f.tk.ds, f.tk.ss].map RS.tx).length ≤ 1048576 := by
      simp only [List.map_cons, List.map_nil, RS.tx_len, List.sum_cons, List.sum_nil, List.length_cons, List.length_nil]
      omega
    walk_at "mine go"
    (rename Fr _ _ _ _ => kF'); (rename News _ _ _ _ => kN')
    refine LCg.CompEnd.intro kF' kN' _ (fun _ hp => hp) off (.inr ⟨_, .head _, rfl, _, rfl⟩) ⟨rfl, ?_⟩
    rw [List.take_add_one, hf]
    simpa using kct_snoc hys
  · rintro ys nw ⟨rfl, hys⟩
    rw [List.size_toArray, List.length_map, hlen, List.take_length] at hys
    intro D₃ h₃ tk₃ kF kN offD
    have hg : Txt.join (PySem.Str.ofString "") (fs.map fun f => RS.tx f.tk.tx) = RS.tx (SR.txs (fs.map Fm.tk)) := by
      have := RS.glued_nil (fs.map fun f => f.tk.tx)
      rw [List.map_map] at this
      refine this.trans (congrArg RS.tx ?_)
      unfold SR.txs
      rw [List.flatMap_def, List.map_map]; rfl
    have hw : ((fs.map fun f => RS.tx f.tk.tx).map (·.length)).sum + (fs.map fun f => RS.tx f.tk.tx).length ≤ 1048576 := by
      have e1 : ∀ l : List Fm, ((l.map fun f => RS.tx f.tk.tx).map (·.length)).sum = (SR.txs (l.map Fm.tk)).length := by
        intro l
        induction l with
        | nil => rfl
        | cons u r ih =>
          show _ = (u.tk.tx ++ SR.txs (r.map Fm.tk)).length
          rw [List.map_cons, List.map_cons, List.sum_cons, ih, RS.tx_len, List.length_append]
      rw [e1, List.length_map]; omega
    have hcmp : (RS.tx (SR.txs (fs.map Fm.tk)) != RS.tx (SR.txs (fs.map Fm.tk))) = false := by simp
    walk_at "mine go"
    (rename Fr _ _ _ _ => kF); (rename News _ _ _ _ => kN)
    refine for_stmt ?_ (fun _ => rfl)
    walk_at "mine go"
    (rename Fr _ _ _ _ => kF); (rename News _ _ _ _ => kN)
    obtain ⟨its, hits⟩ : ∃ its, its = fs.map (·.it) := ⟨_, rfl⟩
    refine for_list (L := L') (l := Da) rfl (fun I k m news => ∃ (ia : Addr) (xs : List Addr) (nn : Nat) (own' : List (Addr × Obj)), news = (ia, listOf (xs.map Value.ref).toArray nn) :: own' ∧ OwnOff own' [ia] ∧ (Da, listOf (rs.map Value.ref).toArray nd) ∈ own' ∧ (∀ p ∈ own, p ∈ own') ∧ xs.length = k ∧
      (∀ (j : Nat) (f : Fm) (x : Addr), fs[j]? = some f → xs[j]? = some x → ∃ nm, InfoIn own' x f.it.k f.it.W nm ∧ (f.it.k.pad = false → ∃ t, nm = .int (cnt its j : Nat) t)) ∧ MR m (PySem.Str.ofString "infos") ia ∧ (∃ t, m (PySem.Str.ofString "endianness") = some (.str (PySem.Str.ofString ">") t)) ∧ (∃ t, m (PySem.Str.ofString "i") = some (.int (cnt its k : Nat) t)) ∧ m (PySem.Str.ofString "names") = some .none ∧ m (PySem.Str.ofString "text_encoding") = some v4 ∧ m (PySem.Str.ofString "text_errors") = some v5 ∧ (∃ t, m (PySem.Str.ofString "byte_order") = some (.str (RS.tx (if eb then [62] else [])) t))) H.hh kF kN
      ⟨_, (kN _ (.tail _ (.tail _ (.head _)))).1, rfl, _, rfl⟩ (Ne.symm (kN _ (.tail _ (.tail _ (.head _)))).2.1) (.inr ⟨_, .tail _ (.tail _ (.head _)), ?_⟩) ?_ ?_ ?_
    · rintro I i m news ⟨ia, xs, nn, own', rfl, _, hD, _⟩
      exact .tail _ hD
    · intro I hI
      refine ⟨_, [], 0, _, rfl, ?_, .tail _ (.head _), fun p hp => .tail _ (.tail _ (List.mem_append_left _ hp)), rfl, (fun j f x _ hx => nomatch hx), by walk_at "mine look", ⟨_, by walk_at "mine look"⟩, ⟨_, by walk_at "mine look"⟩, by walk_at "mine look", by walk_at "mine look", by walk_at "mine look", _, by walk_at "mine look"⟩
      rename (_ ∧ _ ∧ AllLt _ _) => lia
      intro p hp b hb
      rw [List.mem_singleton.mp hb]
      rcases List.mem_cons.mp hp with rfl | hp
      · exact Nat.ne_of_lt lia.1
      · rcases List.mem_cons.mp hp with rfl | hp
        · exact Nat.ne_of_lt lia.2.1
        · exact Nat.ne_of_lt (allLt_mem _ lia.2.2 p hp)
    · clear kF kN
      rintro I j v m news h tk oI hv ⟨ia, xs, nn, own', rfl, hoff, hD, hsub, hxl, hinf, m1, ⟨te, m2⟩, ⟨ti, m3⟩, m4, m5, m6, ⟨tb, m7⟩⟩ kF kN hI
      (try k_fold)
      obtain ⟨a, ha, rfl⟩ : ∃ a, rs[j]? = some a ∧ v = .ref a := by
        rw [List.getElem?_map] at hv
        cases e : rs[j]? with
        | none => rw [e] at hv; cases hv
        | some x => rw [e] at hv; cases hv; exact ⟨x, rfl, rfl⟩
      have hj : j < fs.length := by rw [← hlen]; exact (List.getElem?_eq_some_iff.mp ha).1
      obtain ⟨f, hf⟩ : ∃ f, fs[j]? = some f := ⟨_, List.getElem?_eq_getElem hj⟩
      obtain ⟨t1, t2, t3, t4, hm0⟩ := hO.get (i := j) (u := f.tk) ha (by rw [List.getElem?_map, hf]; rfl)
      have hm := hsub _ hm0
      have hit : its[j]? = some f.it := by rw [hits, List.getElem?_map, hf]; rfl
      obtain ⟨hw, hw2⟩ := hW f (List.mem_of_getElem? hf)
      have hr := digs_read f.it.W (by omega)
      have hdl := digs_len f.it.W (by omega)
      have hcnt := cnt_take hit
      have hlit := hinf
      have hz2 : (xs.map Value.ref).toArray.size ≤ sizeLine := by rw [List.size_toArray, List.length_map, hxl, sizeLine_eq]; omega
      have hIa : @Ne Nat ia I := hI _ (.head _)
      have hIb : @Ne Nat I ia := fun e => hIa e.symm
      obtain ⟨⟨k, W⟩, pre, sp⟩ := f
      dsimp only at hw hw2 hr hdl hcnt hf hit
      have hW0 : ¬ ((W : Int) = 0) := by omega
      have hm2 : (a, ({ cls := .type "tuple", data := .seq [.str (if pre then PySem.Str.ofString ">" else PySem.Str.ofString "") t1, .str (RS.tx [k.sign]) t2, .str (RS.tx (digs W)) t3, .str (RS.tx (if sp then [32] else [])) t4].toArray } : Obj)) ∈ own' := by
        cases pre <;> exact hm
      clear hm
      walk_at "mine upto"
      refine cut_stmt (h₀ := s.heap) (L := L') (fun m nw => nw = (I, oI) :: (ia, listOf (xs.map Value.ref).toArray nn) :: own' ∧ MR m (PySem.Str.ofString "infos") ia ∧ (∃ t, m (PySem.Str.ofString "endianness") = some (.str (PySem.Str.ofString ">") t)) ∧ (∃ t, m (PySem.Str.ofString "i") = some (.int (cnt its j : Nat) t)) ∧ m (PySem.Str.ofString "names") = some .none ∧ m (PySem.Str.ofString "text_encoding") = some v4 ∧ m (PySem.Str.ofString "text_errors") = some v5 ∧ (∃ t, m (PySem.Str.ofString "byte_order") = some (.str (RS.tx (if eb then [62] else [])) t)) ∧ m (PySem.Str.ofString "parsed_info") = some (.ref a)) ?_ ?_
      · cases pre
        all_goals (walk_at "mine go")
        all_goals ((rename Fr _ _ _ _ => kF'); (rename News _ _ _ _ => kN'); (refine Turn.mk' kF' kN' ?_); exact ⟨rfl, by walk_at "mine look", ⟨_, by walk_at "mine look"⟩, ⟨_, by walk_at "mine look"⟩, by walk_at "mine look", by walk_at "mine look", by walk_at "mine look", ⟨_, by walk_at "mine look"⟩, by walk_at "mine look"⟩)
      · rintro h tk m nw kF kN ⟨rfl, m1, ⟨te, m2⟩, ⟨ti, m3⟩, m4, m5, m6, ⟨tb, m7⟩, m8⟩
        (try k_fold)
        cases k with
          | u =>
            have hcu : ((cnt its (j + 1) : Nat) : Int) = (cnt its j : Nat) + 1 := by rw [hcnt]; rfl
            change (a, ({ cls := .type "tuple", data := .seq [.str (if pre then PySem.Str.ofString ">" else PySem.Str.ofString "") t1, .str (PySem.Str.ofString "u") t2, .str (RS.tx (digs W)) t3, .str (RS.tx (if sp then [32] else [])) t4].toArray } : Obj)) ∈ own' at hm2
            walk_at "mine go"
            all_goals (try exact absurd (by assumption : ((W : Nat) : Int) = 0) hW0)
            (rename Fr _ _ _ _ => kF'); (rename News _ _ _ _ => kN')
            simp only [List.push_toArray] at kN'
            obtain ⟨x, dx, es, n, nn2, nm, kN2, hes, hnm, l1, l2, l3, l4⟩ : ∃ x dx es n nn2 nm, News s.heap L' _ ((I, oI) :: (ia, listOf (xs.map Value.ref ++ [Value.ref x]).toArray nn2) :: (x, instObj (Kd.u).cls dx) :: (dx, dictOf es n) :: own') ∧ InfoEs .u W nm es ∧ ((Kd.u).pad = false → ∃ t, nm = .int (cnt its j : Nat) t) ∧ (∀ p ∈ own', p.1 < dx) ∧ @LT.lt Nat _ dx x ∧ @LT.lt Nat _ I dx ∧ @LT.lt Nat _ ia dx :=
              ⟨_, _, _, _, _, _, News.swap22 kN', ⟨_, _, _, _, _, _, _, _, _, _, _, rfl⟩, (fun _ => ⟨_, rfl⟩), by assumption, by assumption, by assumption, by assumption⟩
            refine Turn.mk' kF' kN2 ?_
            refine parse_turn hoff hD hsub hxl hinf hf hes hnm l1 l2 l3 l4 hI ?_
            exact ⟨by walk_at "mine look", ⟨_, by walk_at "mine look"⟩, ⟨_, by rw [hcu]; walk_at "mine look"⟩, by walk_at "mine look", by walk_at "mine look", by walk_at "mine look", _, by walk_at "mine look"⟩
          | s =>
            have hcu : ((cnt its (j + 1) : Nat) : Int) = (cnt its j : Nat) + 1 := by rw [hcnt]; rfl
            change (a, ({ cls := .type "tuple", data := .seq [.str (if pre then PySem.Str.ofString ">" else PySem.Str.ofString "") t1, .str (PySem.Str.ofString "s") t2, .str (RS.tx (digs W)) t3, .str (RS.tx (if sp then [32] else [])) t4].toArray } : Obj)) ∈ own' at hm2
            walk_at "mine go"
            all_goals (try exact absurd (by assumption : ((W : Nat) : Int) = 0) hW0)
            (rename Fr _ _ _ _ => kF'); (rename News _ _ _ _ => kN')
            simp only [List.push_toArray] at kN'
            obtain ⟨x, dx, es, n, nn2, nm, kN2, hes, hnm, l1, l2, l3, l4⟩ : ∃ x dx es n nn2 nm, News s.heap L' _ ((I, oI) :: (ia, listOf (xs.map Value.ref ++ [Value.ref x]).toArray nn2) :: (x, instObj (Kd.s).cls dx) :: (dx, dictOf es n) :: own') ∧ InfoEs .s W nm es ∧ ((Kd.s).pad = false → ∃ t, nm = .int (cnt its j : Nat) t) ∧ (∀ p ∈ own', p.1 < dx) ∧ @LT.lt Nat _ dx x ∧ @LT.lt Nat _ I dx ∧ @LT.lt Nat _ ia dx :=
              ⟨_, _, _, _, _, _, News.swap22 kN', ⟨_, _, _, _, _, _, _, _, _, _, _, _, _, _, rfl⟩, (fun _ => ⟨_, rfl⟩), by assumption, by assumption, by assumption, by assumption⟩
            refine Turn.mk' kF' kN2 ?_
            refine parse_turn hoff hD hsub hxl hinf hf hes hnm l1 l2 l3 l4 hI ?_
            exact ⟨by walk_at "mine look", ⟨_, by walk_at "mine look"⟩, ⟨_, by rw [hcu]; walk_at "mine look"⟩, by walk_at "mine look", by walk_at "mine look", by walk_at "mine look", _, by walk_at "mine look"⟩
          | b =>
            have hcu : ((cnt its (j + 1) : Nat) : Int) = (cnt its j : Nat) + 1 := by rw [hcnt]; rfl
            change (a, ({ cls := .type "tuple", data := .seq [.str (if pre then PySem.Str.ofString ">" else PySem.Str.ofString "") t1, .str (PySem.Str.ofString "b") t2, .str (RS.tx (digs W)) t3, .str (RS.tx (if sp then [32] else [])) t4].toArray } : Obj)) ∈ own' at hm2
            walk_at "mine go"
            all_goals (try exact absurd (by assumption : ((W : Nat) : Int) = 0) hW0)
            (rename Fr _ _ _ _ => kF'); (rename News _ _ _ _ => kN')
            simp only [List.push_toArray] at kN'
            obtain ⟨x, dx, es, n, nn2, nm, kN2, hes, hnm, l1, l2, l3, l4⟩ : ∃ x dx es n nn2 nm, News s.heap L' _ ((I, oI) :: (ia, listOf (xs.map Value.ref ++ [Value.ref x]).toArray nn2) :: (x, instObj (Kd.b).cls dx) :: (dx, dictOf es n) :: own') ∧ InfoEs .b W nm es ∧ ((Kd.b).pad = false → ∃ t, nm = .int (cnt its j : Nat) t) ∧ (∀ p ∈ own', p.1 < dx) ∧ @LT.lt Nat _ dx x ∧ @LT.lt Nat _ I dx ∧ @LT.lt Nat _ ia dx :=
              ⟨_, _, _, _, _, _, News.swap22 kN', ⟨_, _, _, _, _, _, _, _, _, _, _, rfl⟩, (fun _ => ⟨_, rfl⟩), by assumption, by assumption, by assumption, by assumption⟩
            refine Turn.mk' kF' kN2 ?_
            refine parse_turn hoff hD hsub hxl hinf hf hes hnm l1 l2 l3 l4 hI ?_
            exact ⟨by walk_at "mine look", ⟨_, by walk_at "mine look"⟩, ⟨_, by rw [hcu]; walk_at "mine look"⟩, by walk_at "mine look", by walk_at "mine look", by walk_at "mine look", _, by walk_at "mine look"⟩
          | r =>
            have hcu : ((cnt its (j + 1) : Nat) : Int) = (cnt its j : Nat) + 1 := by rw [hcnt]; rfl
            change (a, ({ cls := .type "tuple", data := .seq [.str (if pre then PySem.Str.ofString ">" else PySem.Str.ofString "") t1, .str (PySem.Str.ofString "r") t2, .str (RS.tx (digs W)) t3, .str (RS.tx (if sp then [32] else [])) t4].toArray } : Obj)) ∈ own' at hm2
            walk_at "mine go"
            all_goals (try exact absurd (by assumption : ((W : Nat) : Int) = 0) hW0)
            (rename Fr _ _ _ _ => kF'); (rename News _ _ _ _ => kN')
            simp only [List.push_toArray] at kN'
            obtain ⟨x, dx, es, n, nn2, nm, kN2, hes, hnm, l1, l2, l3, l4⟩ : ∃ x dx es n nn2 nm, News s.heap L' _ ((I, oI) :: (ia, listOf (xs.map Value.ref ++ [Value.ref x]).toArray nn2) :: (x, instObj (Kd.r).cls dx) :: (dx, dictOf es n) :: own') ∧ InfoEs .r W nm es ∧ ((Kd.r).pad = false → ∃ t, nm = .int (cnt its j : Nat) t) ∧ (∀ p ∈ own', p.1 < dx) ∧ @LT.lt Nat _ dx x ∧ @LT.lt Nat _ I dx ∧ @LT.lt Nat _ ia dx :=
              ⟨_, _, _, _, _, _, News.swap22 kN', ⟨_, _, _, _, _, _, _, _, rfl⟩, (fun _ => ⟨_, rfl⟩), by assumption, by assumption, by assumption, by assumption⟩
            refine Turn.mk' kF' kN2 ?_
            refine parse_turn hoff hD hsub hxl hinf hf hes hnm l1 l2 l3 l4 hI ?_
            exact ⟨by walk_at "mine look", ⟨_, by walk_at "mine look"⟩, ⟨_, by rw [hcu]; walk_at "mine look"⟩, by walk_at "mine look", by walk_at "mine look", by walk_at "mine look", _, by walk_at "mine look"⟩
          | t =>
            have hcu : ((cnt its (j + 1) : Nat) : Int) = (cnt its j : Nat) + 1 := by rw [hcnt]; rfl
            change (a, ({ cls := .type "tuple", data := .seq [.str (if pre then PySem.Str.ofString ">" else PySem.Str.ofString "") t1, .str (PySem.Str.ofString "t") t2, .str (RS.tx (digs W)) t3, .str (RS.tx (if sp then [32] else [])) t4].toArray } : Obj)) ∈ own' at hm2
            walk_at "mine go"
            all_goals (try exact absurd (by assumption : ((W : Nat) : Int) = 0) hW0)
            (rename Fr _ _ _ _ => kF'); (rename News _ _ _ _ => kN')
            simp only [List.push_toArray] at kN'
            obtain ⟨x, dx, es, n, nn2, nm, kN2, hes, hnm, l1, l2, l3, l4⟩ : ∃ x dx es n nn2 nm, News s.heap L' _ ((I, oI) :: (ia, listOf (xs.map Value.ref ++ [Value.ref x]).toArray nn2) :: (x, instObj (Kd.t).cls dx) :: (dx, dictOf es n) :: own') ∧ InfoEs .t W nm es ∧ ((Kd.t).pad = false → ∃ t, nm = .int (cnt its j : Nat) t) ∧ (∀ p ∈ own', p.1 < dx) ∧ @LT.lt Nat _ dx x ∧ @LT.lt Nat _ I dx ∧ @LT.lt Nat _ ia dx :=
              ⟨_, _, _, _, _, _, News.swap22 kN', ⟨_, _, _, _, _, _, _, _, _, _, _, _, _, _, rfl⟩, (fun _ => ⟨_, rfl⟩), by assumption, by assumption, by assumption, by assumption⟩
            refine Turn.mk' kF' kN2 ?_
            refine parse_turn hoff hD hsub hxl hinf hf hes hnm l1 l2 l3 l4 hI ?_
            exact ⟨by walk_at "mine look", ⟨_, by walk_at "mine look"⟩, ⟨_, by rw [hcu]; walk_at "mine look"⟩, by walk_at "mine look", by walk_at "mine look", by walk_at "mine look", _, by walk_at "mine look"⟩
          | p =>
            have hcu : ((cnt its (j + 1) : Nat) : Int) = (cnt its j : Nat) := by rw [hcnt]; rfl
            change (a, ({ cls := .type "tuple", data := .seq [.str (if pre then PySem.Str.ofString ">" else PySem.Str.ofString "") t1, .str (PySem.Str.ofString "p") t2, .str (RS.tx (digs W)) t3, .str (RS.tx (if sp then [32] else [])) t4].toArray } : Obj)) ∈ own' at hm2
            walk_at "mine go"
            all_goals (try exact absurd (by assumption : ((W : Nat) : Int) = 0) hW0)
            (rename Fr _ _ _ _ => kF'); (rename News _ _ _ _ => kN')
            simp only [List.push_toArray] at kN'
            obtain ⟨x, dx, es, n, nn2, nm, kN2, hes, hnm, l1, l2, l3, l4⟩ : ∃ x dx es n nn2 nm, News s.heap L' _ ((I, oI) :: (ia, listOf (xs.map Value.ref ++ [Value.ref x]).toArray nn2) :: (x, instObj (Kd.p).cls dx) :: (dx, dictOf es n) :: own') ∧ InfoEs .p W nm es ∧ ((Kd.p).pad = false → ∃ t, nm = .int (cnt its j : Nat) t) ∧ (∀ p ∈ own', p.1 < dx) ∧ @LT.lt Nat _ dx x ∧ @LT.lt Nat _ I dx ∧ @LT.lt Nat _ ia dx :=
              ⟨_, _, _, _, _, _, News.swap22 kN', ⟨_, _, _, _, _, _, _, _, rfl⟩, (fun h => nomatch h), by assumption, by assumption, by assumption, by assumption⟩
            refine Turn.mk' kF' kN2 ?_
            refine parse_turn hoff hD hsub hxl hinf hf hes hnm l1 l2 l3 l4 hI ?_
            exact ⟨by walk_at "mine look", ⟨_, by walk_at "mine look"⟩, ⟨_, by rw [hcu]; walk_at "mine look"⟩, by walk_at "mine look", by walk_at "mine look", by walk_at "mine look", _, by walk_at "mine look"⟩
          | q =>
            have hcu : ((cnt its (j + 1) : Nat) : Int) = (cnt its j : Nat) := by rw [hcnt]; rfl
            change (a, ({ cls := .type "tuple", data := .seq [.str (if pre then PySem.Str.ofString ">" else PySem.Str.ofString "") t1, .str (PySem.Str.ofString "P") t2, .str (RS.tx (digs W)) t3, .str (RS.tx (if sp then [32] else [])) t4].toArray } : Obj)) ∈ own' at hm2
            walk_at "mine go"
            all_goals (try exact absurd (by assumption : ((W : Nat) : Int) = 0) hW0)
            (rename Fr _ _ _ _ => kF'); (rename News _ _ _ _ => kN')
            simp only [List.push_toArray] at kN'
            obtain ⟨x, dx, es, n, nn2, nm, kN2, hes, hnm, l1, l2, l3, l4⟩ : ∃ x dx es n nn2 nm, News s.heap L' _ ((I, oI) :: (ia, listOf (xs.map Value.ref ++ [Value.ref x]).toArray nn2) :: (x, instObj (Kd.q).cls dx) :: (dx, dictOf es n) :: own') ∧ InfoEs .q W nm es ∧ ((Kd.q).pad = false → ∃ t, nm = .int (cnt its j : Nat) t) ∧ (∀ p ∈ own', p.1 < dx) ∧ @LT.lt Nat _ dx x ∧ @LT.lt Nat _ I dx ∧ @LT.lt Nat _ ia dx :=
              ⟨_, _, _, _, _, _, News.swap22 kN', ⟨_, _, _, _, _, _, _, _, rfl⟩, (fun h => nomatch h), by assumption, by assumption, by assumption, by assumption⟩
            refine Turn.mk' kF' kN2 ?_
            refine parse_turn hoff hD hsub hxl hinf hf hes hnm l1 l2 l3 l4 hI ?_
            exact ⟨by walk_at "mine look", ⟨_, by walk_at "mine look"⟩, ⟨_, by rw [hcu]; walk_at "mine look"⟩, by walk_at "mine look", by walk_at "mine look", by walk_at "mine look", _, by walk_at "mine look"⟩
    · clear kF kN
      rintro I m news h tk ⟨ia, xs, nn, own', rfl, hoff, hD, hsub, hxl, hinf, m1, ⟨te, m2⟩, ⟨ti, m3⟩, m4, m5, m6, ⟨tb, m7⟩⟩ kF kN
      (try k_fold)
      cases eb with
      | true =>
        have q9 : (((RS.tx [62]).length : Int) != 0) = true := by decide
        simp only [if_true] at *
        walk_at "mine go"
        (rename Fr _ _ _ _ => kF'); (rename News _ _ _ _ => kN')
        refine ⟨_, _, _, _, rfl, rfl, Fr.keep kF', (fun p hp => ⟨(kN' p hp).1, (kN' p hp).2.2⟩), _, ia, xs, nn, _, tb, rfl, .head _, .tail _ (.head _), by rw [hxl, List.length_map, hlen], ?_⟩
        intro j f x hf hx
        obtain ⟨nm, i1, i2⟩ := hinf j f x hf hx
        exact ⟨nm, i1.mono fun p hp => .tail _ (.tail _ hp), by rw [← hits]; exact i2⟩
      | false =>
        have q9 : (((RS.tx []).length : Int) != 0) = false := by decide
        simp only [Bool.false_eq_true, if_false] at *
        walk_at "mine go"
        (rename Fr _ _ _ _ => kF'); (rename News _ _ _ _ => kN')
        refine ⟨_, _, _, _, rfl, rfl, Fr.keep kF', (fun p hp => ⟨(kN' p hp).1, (kN' p hp).2.2⟩), _, ia, xs, nn, _, _, rfl, .head _, .tail _ (.head _), by rw [hxl, List.length_map, hlen], ?_⟩
        intro j f x hf hx
        obtain ⟨nm, i1, i2⟩ := hinf j f x hf hx
        exact ⟨nm, i1.mono fun p hp => .tail _ (.tail _ hp), by rw [← hits]; exact i2⟩
end
-- L2
section
section
variable {prog : Program} {w : World} {A : Around} {s : Shared} {h₀ : Heap} {L : Addr} {m : PySem.Str → Option Value} {news : List (Addr × Obj)}
theorem fresh_none {s : Shared} (F : Fr h₀ L s.heap m) {a : Addr} (h : s.heap.get? a = none) : h₀.get? a = none := by
  cases e : h₀.get? a with
  | none => rfl
  | some o => have := F.keep a o e; rw [h] at this; cases this
theorem fresh_ne {s : Shared} (F : Fr h₀ L s.heap m) {a : Addr} (h : s.heap.get? a = none) : a ≠ L := by
  intro e
  obtain ⟨o, _, _, hL, _⟩ := F.ns
  rw [e, hL] at h; cases h
/-- a call that hands back objects of its own making -/
theorem use_specO {f : Value} {pos : List Value} {kw : List (PySem.Str × Value)} {Q : Value → Shared → Prop} {E : Value → Shared → Prop} {P : Value → List (Addr × Obj) → Prop}
    (F : Fr h₀ L s.heap m) (N : News h₀ L s.heap news)
    (h : codeAny (model prog w) A (.call f ⟨pos, kw⟩) (Ret s P) s)
    (k : ∀ v h' tk' own, Fr h₀ L h' m → News h₀ L h' (news ++ own) → PySem.W.OwnOff own (news.map (·.1)) → P v own → Q v { s with heap := h', toks := tk' }) : wpAny (model prog w) A (call f pos kw) Q E s :=
  use_spec h fun v h' tk' own x y p => k v h' tk' own (Fr.ext F x) (fun q hq => by
    rcases List.mem_append.mp hq with hq | hq
    · exact (News.ext N x) q hq
    · exact ⟨(y q hq).1, fresh_ne F (y q hq).2, fresh_none F (y q hq).2⟩) (fun q hq b hb e => by
      obtain ⟨p, hp, rfl⟩ := List.mem_map.mp hb
      have := (N p hp).1
      rw [← e, (y q hq).2] at this; cases this) p
theorem News.dup {h : Heap} {p : Addr × Obj} {news : List (Addr × Obj)} (N : News h₀ L h news) (hp : p ∈ news) : News h₀ L h (p :: news) := fun q hq => by
  rcases List.mem_cons.mp hq with rfl | hq
  · exact N _ hp
  · exact N _ hq
theorem News.sub {h : Heap} {a b : List (Addr × Obj)} (N : News h₀ L h a) (hs : ∀ p ∈ b, p ∈ a) : News h₀ L h b := fun q hq => N q (hs q hq)
/-- an init's way back, with what it made -/
def IRetO (s : Shared) (g : Heap) (x dx : Addr) (P : Heap → List (Addr × Obj) → Prop) : Result → Shared → Prop := fun r s' =>
  ∃ h' tk' own, r = .ok (.ret .none) ∧ s' = { s with heap := h', toks := tk' } ∧ (∀ b o, g.get? b = some o → h'.get? b = some o) ∧ (∀ p ∈ own, h'.get? p.1 = some p.2 ∧ g.get? p.1 = none ∧ p.1 ≠ x ∧ p.1 ≠ dx) ∧ P h' own
theorem use_initO {q so : Addr} {f : Value} {x dx : Addr} {ox od oS : Obj} {pos : List Value} {kw : List (PySem.Str × Value)} {Q : Value → Shared → Prop} {E : Value → Shared → Prop} {P : Obj → List (Addr × Obj) → Prop}
    (F : Fr h₀ L s.heap m) (N : News h₀ L s.heap [(q, methodObj f (.ref x)), (so, oS), (x, ox), (dx, od)]) (h1 : q ≠ x) (h2 : q ≠ dx) (h3 : so ≠ x) (h4 : so ≠ dx)
    (h : ∀ g, (∀ b o, h₀.get? b = some o → g.get? b = some o) → (∀ b o, g.get? b = some o → s.heap.get? b = some o) → g.objs.size ≤ s.heap.objs.size → (∀ p ∈ [(x, ox), (dx, od)], s.heap.get? p.1 = some p.2 ∧ g.get? p.1 = none) →
      codeAny (model prog w) A (.call f ⟨.ref x :: pos, kw⟩) (IRetO s g x dx fun h' own => h'.get? x = some ox ∧ ∃ o, h'.get? dx = some o ∧ P o own) s)
    (k : ∀ h' tk' o own, Fr h₀ L h' m → News h₀ L h' ([(q, methodObj f (.ref x)), (so, oS), (x, ox), (dx, o)] ++ own) → PySem.W.OwnOff own [q, so, x, dx] → P o own → Q .none { s with heap := h', toks := tk' }) : wpAny (model prog w) A (call (.ref q) pos kw) Q E s := by
  have Nq := N (q, methodObj f (.ref x)) (.head _)
  have Ns := N (so, oS) (.tail _ (.head _))
  have Nx := N (x, ox) (.tail _ (.tail _ (.head _)))
  have Nd := N (dx, od) (.tail _ (.tail _ (.tail _ (.head _))))
  have st : ∀ b o, h₀.get? b = some o → b ∉ [x, dx] := by
    intro b o e hb
    rcases List.mem_cons.mp hb with rfl | hb
    · exact nomatch e.symm.trans Nx.2.2
    · rcases List.mem_cons.mp hb with rfl | hb
      · exact nomatch e.symm.trans Nd.2.2
      · exact nomatch hb
  refine PySem.W.call_meth N (.head _) (codeAny_mono (h (PySem.W.hideAll s.heap [x, dx]) (fun b o e => PySem.W.hideAll_get _ (F.keep b o e) (st b o e)) (fun b o e => PySem.W.of_hideAll _ e) (Nat.le_of_eq (PySem.W.hideAll_size _ _)) ?_) ?_)
  · intro p hp
    rcases List.mem_cons.mp hp with rfl | hp
    · exact ⟨Nx.1, PySem.W.hideAll_none _ (.head _)⟩
    · rcases List.mem_cons.mp hp with rfl | hp
      · exact ⟨Nd.1, PySem.W.hideAll_none _ (.tail _ (.head _))⟩
      · exact nomatch hp
  · rintro r s' ⟨h', tk', own, rfl, rfl, kk, hown, hx', o, ho, hP⟩
    have keepN : ∀ b o, s.heap.get? b = some o → b ≠ x → b ≠ dx → h'.get? b = some o := fun b o e n1 n2 => kk b o (PySem.W.hideAll_get _ e (by simp [n1, n2]))
    have F' : Fr h₀ L h' m := Fr.but F (fun b o e => keepN b o (F.keep b o e) (fun c => st b o e (by simp [c])) (fun c => st b o e (by simp [c]))) fun o e => keepN _ _ e (fun c => Nx.2.1 c.symm) (fun c => Nd.2.1 c.symm)
    refine k h' tk' o own F' ?_ ?_ hP
    · intro p hp
      rcases List.mem_append.mp hp with hp | hp
      · rcases List.mem_cons.mp hp with rfl | hp
        · exact ⟨keepN _ _ Nq.1 h1 h2, Nq.2⟩
        · rcases List.mem_cons.mp hp with rfl | hp
          · exact ⟨keepN _ _ Ns.1 h3 h4, Ns.2⟩
          · rcases List.mem_cons.mp hp with rfl | hp
            · exact ⟨hx', Nx.2⟩
            · rw [List.mem_singleton.mp hp]; exact ⟨ho, Nd.2⟩
      · have hs : s.heap.get? p.1 = none := by
          cases e : s.heap.get? p.1 with
          | none => rfl
          | some o => have := PySem.W.hideAll_get [x, dx] e (by simp [(hown p hp).2.2.1, (hown p hp).2.2.2]); rw [(hown p hp).2.1] at this; cases this
        exact ⟨(hown p hp).1, fresh_ne F hs, fresh_none F hs⟩
    · intro p hp b hb e
      have hn : s.heap.get? p.1 = none := by
        cases e : s.heap.get? p.1 with
        | none => rfl
        | some o => have := PySem.W.hideAll_get [x, dx] e (by simp [(hown p hp).2.2.1, (hown p hp).2.2.2]); rw [(hown p hp).2.1] at this; cases this
      rw [e] at hn
      have : ∃ o, s.heap.get? b = some o := by
        rcases List.mem_cons.mp hb with rfl | hb
        · exact ⟨_, Nq.1⟩
        · rcases List.mem_cons.mp hb with rfl | hb
          · exact ⟨_, Ns.1⟩
          · rcases List.mem_cons.mp hb with rfl | hb
            · exact ⟨_, Nx.1⟩
            · rw [List.mem_singleton.mp hb]; exact ⟨_, Nd.1⟩
      obtain ⟨o, ho⟩ := this
      rw [hn] at ho; cases ho
theorem use_clsO {K : Frag} {C fI : Addr} {pos : List Value} {kw : List (PySem.Str × Value)} {Q : Value → Shared → Prop} {E : Value → Shared → Prop} {P : Obj → List (Addr × Obj) → Prop}
    (F : Fr h₀ L s.heap m) (N : News h₀ L s.heap news) (X₀ : K.In h₀) (hm : makesIn K C = true) (hi : findIn K (.ref C) "__init__" = some (some (.ref fI))) (hf : isFn K (.ref fI) = true)
    (h : ∀ (s₁ : Shared) g x dx, (∀ b o, h₀.get? b = some o → g.get? b = some o) → (∀ b o, g.get? b = some o → s₁.heap.get? b = some o) → g.objs.size ≤ s₁.heap.objs.size → (∀ p ∈ [(x, instObj C dx), (dx, dictOf [] 0)], s₁.heap.get? p.1 = some p.2 ∧ g.get? p.1 = none) → dx < x →
      codeAny (model prog w) (A.under (.builtin "type.__call__" ⟨.ref C :: pos, kw⟩)) (.call (.ref fI) ⟨.ref x :: pos, kw⟩) (IRetO s₁ g x dx fun h' own => h'.get? x = some (instObj C dx) ∧ ∃ o, h'.get? dx = some o ∧ P o own) s₁)
    (k : ∀ x dx h' tk' o own, Fr h₀ L h' m → News h₀ L h' (((x, instObj C dx) :: (dx, o) :: news) ++ own) → (∀ p ∈ news, p.1 < dx) → dx < x → PySem.W.OwnOff own (x :: dx :: news.map (·.1)) → P o own → Q (.ref x) { s with heap := h', toks := tk' }) :
    wpAny (model prog w) A (call (.ref C) pos kw) Q E s := by
  refine call_cls F X₀ N hm hi hf fun x dx h₁ F₁ N₁ l1 l2 => ?_
  have Nx := N₁ (x, instObj C dx) (.head _)
  have Nd := N₁ (dx, dictOf [] 0) (.tail _ (.head _))
  have st : ∀ b o, h₀.get? b = some o → b ∉ [x, dx] := by
    intro b o e hb
    rcases List.mem_cons.mp hb with rfl | hb
    · exact nomatch e.symm.trans Nx.2.2
    · rcases List.mem_cons.mp hb with rfl | hb
      · exact nomatch e.symm.trans Nd.2.2
      · exact nomatch hb
  refine codeAny_mono (h { s with heap := h₁ } (hideAll h₁ [x, dx]) x dx (fun b o e => hideAll_get _ (F₁.keep b o e) (st b o e)) (fun b o e => of_hideAll _ e) (Nat.le_of_eq (hideAll_size _ _)) ?_ l2) ?_
  · intro p hp
    rcases List.mem_cons.mp hp with rfl | hp
    · exact ⟨Nx.1, hideAll_none _ (.head _)⟩
    · rcases List.mem_cons.mp hp with rfl | hp
      · exact ⟨Nd.1, hideAll_none _ (.tail _ (.head _))⟩
      · exact nomatch hp
  · rintro r s' ⟨h', tk', own, rfl, rfl, kk, hown, hx', o, ho, hP⟩
    have keepN : ∀ b o, h₁.get? b = some o → b ≠ x → b ≠ dx → h'.get? b = some o := fun b o e n1 n2 => kk b o (hideAll_get _ e (by simp [n1, n2]))
    have F' : Fr h₀ L h' m := Fr.but F₁ (fun b o e => keepN b o (F₁.keep b o e) (fun c => st b o e (by simp [c])) (fun c => st b o e (by simp [c]))) fun o e => keepN _ _ e (fun c => Nx.2.1 c.symm) (fun c => Nd.2.1 c.symm)
    have Fs : Fr h₀ L ({ s with heap := h₁ } : Shared).heap m := F₁
    refine ⟨rfl, k x dx h' tk' o own F' ?_ l1 l2 ?_ hP⟩
    · intro p hp
      rcases List.mem_append.mp hp with hp | hp
      · rcases List.mem_cons.mp hp with rfl | hp
        · exact ⟨hx', Nx.2⟩
        · rcases List.mem_cons.mp hp with rfl | hp
          · exact ⟨ho, Nd.2⟩
          · have := N₁ p (.tail _ (.tail _ hp))
            have hlt := l1 p hp
            refine ⟨keepN _ _ this.1 ?_ ?_, this.2⟩
            · intro c; rw [c] at hlt; exact Nat.lt_asymm hlt l2
            · intro c; rw [c] at hlt; exact Nat.lt_irrefl _ hlt
      · have hs : h₁.get? p.1 = none := by
          cases e : h₁.get? p.1 with
          | none => rfl
          | some o => have := PySem.W.hideAll_get [x, dx] e (by simp [(hown p hp).2.2.1, (hown p hp).2.2.2]); rw [(hown p hp).2.1] at this; cases this
        exact ⟨(hown p hp).1, fresh_ne Fs hs, fresh_none Fs hs⟩
    · intro p hp b hb e
      have hn : h₁.get? p.1 = none := by
        cases e : h₁.get? p.1 with
        | none => rfl
        | some o => have := PySem.W.hideAll_get [x, dx] e (by simp [(hown p hp).2.2.1, (hown p hp).2.2.2]); rw [(hown p hp).2.1] at this; cases this
      rw [e] at hn
      have : ∃ o, h₁.get? b = some o := by
        rcases List.mem_cons.mp hb with rfl | hb
        · exact ⟨_, Nx.1⟩
        · rcases List.mem_cons.mp hb with rfl | hb
          · exact ⟨_, Nd.1⟩
          · obtain ⟨q, hq, rfl⟩ := List.mem_map.mp hb
            exact ⟨_, (N₁ q (.tail _ (.tail _ hq))).1⟩
      obtain ⟨o, ho⟩ := this
      rw [hn] at ho; cases ho
end
end
-- F13
section
/-- what stands of a compiled format -/
def CfIn (own : List (Addr × Obj)) (its : List Item) (li : Addr) : Prop :=
  ∃ (xs : List Addr) (nl : Nat), (li, listOf (xs.map Value.ref).toArray nl) ∈ own ∧ xs.length = its.length ∧ ∀ (j : Nat) (it : Item) (x : Addr), its[j]? = some it → xs[j]? = some x → (1 ≤ it.W ∧ it.W ≤ 100) ∧ ∃ nm, InfoIn own x it.k it.W nm ∧ (it.k.pad = false → ∃ t, nm = .int (cnt its j : Nat) t)
def CfPre (its : List Item) (o : Obj) (own : List (Addr × Obj)) : Prop :=
  ∃ li a1 t1 a2 t2 u2 a3 t3 u3, o = dictOf [⟨a1, .str (PySem.Str.ofString "_infos") t1, .ref li⟩, ⟨a2, .str (PySem.Str.ofString "_byte_order") t2, .str (PySem.Str.ofString ">") u2⟩, ⟨a3, .str (PySem.Str.ofString "_number_of_bits_to_unpack") t3, .int (totW its : Nat) u3⟩] 3 ∧ CfIn own its li
theorem off2 {own : List (Addr × Obj)} {x dx a : Addr} {o : Obj} (h : PySem.W.OwnOff own [x, dx]) (hm : (a, o) ∈ own) : (@Ne Nat a x ∧ @Ne Nat x a) ∧ @Ne Nat a dx ∧ @Ne Nat dx a :=
  ⟨⟨h _ hm _ (.head _), fun e => h _ hm _ (.head _) e.symm⟩, h _ hm _ (.tail _ (.head _)), fun e => h _ hm _ (.tail _ (.head _)) e.symm⟩
variable {w : World} {A : Around} {s : Shared}
local macro_rules | `(tactic| walk_at "assign Tuple") => `(tactic| k_dflt ((k_here; (with_reducible show wpAny _ _ (assign (Expr.Tuple _ _ _) _ (Value.ref _)) _ _ _); k_dflt (refine' unpackN_ ?F ?N ?T ?k1 ?k2 ?k3 ?_; (case F => k_asm); (case N => k_asm); (case T => exact isTup_of (by k_asm) (by k_mem)); (case k1 => walk_at "mine hh"); (case k2 => exact rfl); (case k3 => exact rfl)); intro h' F' N'; (try k_sweep))))
local macro_rules | `(tactic| k_inst) => `(tactic| with_reducible assumption)
local macro_rules | `(tactic| walk_at "call builtin:sum") => `(tactic| k_dflt ((k_here; (with_reducible show wpAny _ _ (call (Value.builtin "sum") [Value.ref _]) _ _ _); refine' sumK ?k0 ?k1 ?k2 ?k3 ?k4 ?_; (case k0 => walk_at "mine hh"); (case k1 => k_asm); (case k2 => k_asm); (case k3 => first | assumption | exact News.isList (by k_asm) (by k_mem)); (case k4 => assumption); intro h' tk' t' F' N')))
section
local macro_rules | `(tactic| walk_at "mine go") => `(tactic| repeat' ((fail_if_success (with_reducible show Ret _ _ _ _)); first | (k_unfold; (try dsimp only)) | ((fail_if_success ((with_reducible show wpAny _ _ (call (Value.ref 390) _ _) _ _ _))); (fail_if_success (with_reducible show wpAny _ _ (exec (Stmt.Raise _ _ _) _) _ _ _)); (fail_if_success (with_reducible show wpAny _ _ (exec (Stmt.For _ _ _ _ _) _) _ _ _)); (fail_if_success (with_reducible show wpAny _ _ (exec (Stmt.While _ _ _ _) _) _ _ _)); (fail_if_success (with_reducible show wpAny _ _ (eval (Expr.ListComp _ _ _ _) _) _ _ _)); (fail_if_success (with_reducible show wpAny _ _ (exec (Stmt.Assign _ (Expr.ListComp _ _ _ _) _) _) _ _ _)); (first | walk1 | (dsimp only; walk1))) | fail "stop"))
theorem cf0_init_spec {g : Heap} (B : Bas w g) (H : Room A 10) (fs : List Fm) (eb : Bool) (t : Tok) (v4 v5 : Value) (hne : fs ≠ []) (hsz : (SR.txs (fs.map Fm.tk)).length ≤ 500) (hW : ∀ f ∈ fs, 1 ≤ f.it.W ∧ f.it.W ≤ 100) (x dx : Addr)
    (kp : ∀ b o, g.get? b = some o → s.heap.get? b = some o) (kq : g.objs.size ≤ s.heap.objs.size) (hlt : dx < x)
    (kr : ∀ p ∈ [(x, instObj 507 dx), (dx, dictOf [] 0)], s.heap.get? p.1 = some p.2 ∧ g.get? p.1 = none) :
    codeAny (model PySem.Challenge.pw_bk5003_01 w) A (.call (.ref 417) ⟨[.ref x, .str (RS.tx (fmtL fs ++ if eb then [62] else [])) t, .none, v4, v5], []⟩) (IRetO s g x dx fun h' own => h'.get? x = some (instObj 507 dx) ∧ ∃ o, h'.get? dx = some o ∧ CfPre (fs.map (·.it)) o own) s := by
  obtain ⟨X, p, loose, mean, mg, mb, T⟩ := B
  k_lt2 hlt
  (k_dflt (refine' enterG (binds := [(PySem.Str.ofString "self", .ref x), (PySem.Str.ofString "fmt", .str (RS.tx (fmtL fs ++ if eb then [62] else [])) t), (PySem.Str.ofString "names", .none), (PySem.Str.ofString "text_encoding", v4), (PySem.Str.ofString "text_errors", v5)]) ?k1 ?k2 ?kp ?kq ?kr ?k6 ?k7 ?k8 ?k9 ?kB ?_ ?c2 ?c3 ?c4 ?c5; (case k1 => k_asm); (case k2 => exact Top.nolimit (by assumption)); (case kp => first | assumption | exact fun _ _ e => e); (case kq => first | assumption | exact Nat.le_refl _); (case kr => first | assumption | exact (fun _ h => nomatch h : ∀ p ∈ ([] : List (Addr × Obj)), _)); (case k6 => k_is); (case k7 => k_is); (case k8 => first | exact Nat.lt_of_le_of_lt (Nat.le_add_right _ _) (Room.hd (by assumption)) | (have hR9 := Room.hd (by assumption); omega)); (case k9 => first | exact hb9 _ _ _ _ (by k_is) | exact BindsTo.of_eq rfl | exact binds_K (by k_in) rfl (by k_is) rfl rfl rfl | exact binds_K (Frag.In.keeps (by k_asm) (by assumption)) rfl (by k_is) rfl rfl rfl); (case c5 => decide); (case kB => exact locs rfl); (case c2 => exact rfl); (case c3 => exact rfl); (case c4 => exact rfl)); intro L' h' F' N' l1; (try k_lt l1); (try dsimp only); (try k_fold))
  walk_at "mine go"
  (rename Fr _ _ _ _ => kF); (rename News _ _ _ _ => kN)
  refine use_specO kF kN (parse_spec ?B ?H fs eb t v4 v5 hne hsz hW) ?_
  case B => walk_at "mine bas"
  case H => walk_at "mine room"
  clear kF kN
  rintro v' h' tk' own F' N' of' ⟨tup, ia, xs, nn, nt, tb, rfl, hm1, hm2, hlen, hinf⟩
  k_sweep
  simp only [List.map_cons, List.map_nil] at of'
  simp only [List.cons_append, List.nil_append] at N'
  have n1 := off2 of' hm1
  have n2 := off2 of' hm2
  replace N' := News.dup N' (List.Mem.tail _ (List.Mem.tail _ hm2))
  replace N' := News.dup N' (List.Mem.tail _ (List.Mem.tail _ (List.Mem.tail _ hm1)))
  (try dsimp only)
  (try k_fold)
  walk_at "mine go"
  (rename Fr _ _ _ _ => kF); (rename News _ _ _ _ => kN)
  obtain ⟨its, hits⟩ : ∃ its, its = fs.map (·.it) := ⟨_, rfl⟩
  have hil : its.length = fs.length := by rw [hits, List.length_map]
  have hxl : xs.length ≤ 500 := by
    have hfl : ∀ l : List Fm, l.length ≤ (SR.txs (l.map Fm.tk)).length := by
      intro l
      induction l with
      | nil => exact Nat.le_refl _
      | cons u r ih =>
        show r.length + 1 ≤ (u.tk.tx ++ SR.txs (r.map Fm.tk)).length
        rw [List.length_append]
        unfold SR.Tk.tx
        simp only [List.length_append, List.length_cons]; omega
    have := hfl fs
    omega
  refine LCg.ListComp_U (F₀ := kF) (by with_unfolding_all rfl) (by decide) (by rfl) (by decide) (by rfl) ?_
  walk_at "mine go"
  refine LCg.CompSrc.ledger (Room.hhd H) kF kN (.tail _ (.head _)) (by rw [List.size_toArray, List.length_map, sizeLine_eq]; omega) (fun g => ?_)
  refine comp_J (fun i ys nw => nw = _ ∧ IntsAre ys (((its.take i).map fun f => (f.W : Int)))) ⟨rfl, .nil⟩ ?_ ?_
  · rintro i v I oI C oC D₂ m₂ ys nw h tk E' hi hv ⟨rfl, hys⟩ hC hx F N off ne
    rw [List.size_toArray, List.length_map] at hi
    obtain ⟨f, hf⟩ : ∃ f, fs[i]? = some f := ⟨_, List.getElem?_eq_getElem (by rw [← hlen]; exact hi)⟩
    obtain ⟨a, ha⟩ : ∃ a, xs[i]? = some a := ⟨_, List.getElem?_eq_getElem hi⟩
    obtain rfl : v = .ref a := by
      rw [List.getElem?_toArray, List.getElem?_map, ha] at hv; exact (Option.some.inj hv).symm
    obtain ⟨nm, hI, _⟩ := hinf i f a hf ha
    have hit : its[i]? = some f.it := by rw [hits, List.getElem?_map, hf]; rfl
    have Ix : IsInfo h a f.it.k f.it.W nm := hI.is fun p hp => (N p (.tail _ (.tail _ (.tail _ (.tail _ (.tail _ (.tail _ (.tail _ hp)))))))).1
    obtain ⟨da, na, es, Ix, Jx⟩ := Ix
    obtain ⟨⟨k, W⟩, pre, sp⟩ := f
    dsimp only at *
    have step : ∀ (h' : Heap) (tk' : Nat) (t' : Tok) (nw : List (Addr × Obj)), IntsAre (ys ++ [.int (W : Int) t']) (((its.take (i + 1)).map fun f => (f.W : Int))) := by
      intro _ _ t' _
      rw [List.take_add_one, hit, List.map_append]
      exact ints_snoc hys rfl
    cases k
    case u => obtain ⟨a1, t1, u1, a2, t2, a3, t3, u3, a4, t4, u4, rfl⟩ := Jx; (walk_at "mine go"); (rename Fr _ _ _ _ => kF'); (rename News _ _ _ _ => kN'); exact LCg.CompEnd.intro kF' kN' _ (fun _ hp => hp) off (.inr ⟨_, .tail _ (.head _), rfl, _, rfl⟩) ⟨rfl, step h tk _ []⟩
    case b => obtain ⟨a1, t1, u1, a2, t2, a3, t3, u3, a4, t4, u4, rfl⟩ := Jx; (walk_at "mine go"); (rename Fr _ _ _ _ => kF'); (rename News _ _ _ _ => kN'); exact LCg.CompEnd.intro kF' kN' _ (fun _ hp => hp) off (.inr ⟨_, .tail _ (.head _), rfl, _, rfl⟩) ⟨rfl, step h tk _ []⟩
    case s => obtain ⟨a1, t1, u1, a2, t2, a3, t3, u3, a4, t4, u4, a5, t5, u5, rfl⟩ := Jx; (walk_at "mine go"); (rename Fr _ _ _ _ => kF'); (rename News _ _ _ _ => kN'); exact LCg.CompEnd.intro kF' kN' _ (fun _ hp => hp) off (.inr ⟨_, .tail _ (.head _), rfl, _, rfl⟩) ⟨rfl, step h tk _ []⟩
    case t => obtain ⟨a1, t1, u1, a2, t2, a3, t3, u3, a4, t4, u4, a5, t5, u5, rfl⟩ := Jx; (walk_at "mine go"); (rename Fr _ _ _ _ => kF'); (rename News _ _ _ _ => kN'); exact LCg.CompEnd.intro kF' kN' _ (fun _ hp => hp) off (.inr ⟨_, .tail _ (.head _), rfl, _, rfl⟩) ⟨rfl, step h tk _ []⟩
    all_goals (obtain ⟨a1, t1, u1, a2, t2, a3, t3, u3, rfl⟩ := Jx; (walk_at "mine go"); (rename Fr _ _ _ _ => kF'); (rename News _ _ _ _ => kN'); exact LCg.CompEnd.intro kF' kN' _ (fun _ hp => hp) off (.inr ⟨_, .tail _ (.head _), rfl, _, rfl⟩) ⟨rfl, step h tk _ []⟩)
  · rintro ys nw ⟨rfl, hys⟩
    rw [List.size_toArray, List.length_map, hlen, ← hil, List.take_length] at hys
    intro D₃ h₃ tk₃ kF kN offD
    have hsum : (its.map fun f => (f.W : Int)).sum = ((totW its : Nat) : Int) := by
      have : ∀ l : List Item, (l.map fun f => (f.W : Int)).sum = ((totW l : Nat) : Int) := by
        intro l
        induction l with
        | nil => rfl
        | cons u r ih => rw [List.map_cons, List.sum_cons, ih]; unfold totW; rw [List.map_cons, List.sum_cons]; omega
      exact this its
    obtain ⟨o1, o2, o3, o4, o5⟩ := offD
    have o4' : @Ne Nat D₃ dx := fun e => o4 e.symm
    have o3' : @Ne Nat D₃ x := fun e => o3 e.symm
    walk_at "mine go"
    (rename Fr _ _ _ _ => kF'); (rename News _ _ _ _ => kN')
    rw [hsum] at kN'
    subst hits
    simp only [show RS.tx [62] = PySem.Str.ofString ">" from rfl] at kN'
    refine ⟨_, _, own, rfl, rfl, Fr.keep kF', (fun p hp => ⟨(kN' p (.tail _ (.tail _ (.tail _ (.tail _ (.tail _ hp)))))).1, (kN' p (.tail _ (.tail _ (.tail _ (.tail _ (.tail _ hp)))))).2.2, of' p hp x (.head _), of' p hp dx (.tail _ (.head _))⟩), (kN' _ (.tail _ (.tail _ (.tail _ (.head _))))).1, _, (kN' _ (.tail _ (.tail _ (.tail _ (.tail _ (.head _)))))).1, ia, _, _, _, _, _, _, _, _, rfl, xs, nn, hm2, by rw [List.length_map]; exact hlen, ?_⟩
    intro j it y hj hy
    rw [List.getElem?_map] at hj
    cases hf : fs[j]? with
    | none => rw [hf] at hj; cases hj
    | some f =>
      rw [hf] at hj; cases hj
      exact ⟨hW f (List.mem_of_getElem? hf), hinf j f y hf hy⟩
end
end
local macro_rules | `(tactic| walk_at "assign Tuple") => `(tactic| k_dflt ((k_here; (with_reducible show wpAny _ _ (assign (Expr.Tuple _ _ _) _ (Value.ref _)) _ _ _); k_dflt (refine' unpackN_ ?F ?N ?T ?k1 ?k2 ?k3 ?_; (case F => k_asm); (case N => k_asm); (case T => exact isTup_of (by k_asm) (by k_mem)); (case k1 => walk_at "mine hh"); (case k2 => exact rfl); (case k3 => exact rfl)); intro h' F' N'; (try k_sweep))))
local macro_rules | `(tactic| k_inst) => `(tactic| with_reducible assumption)
local macro_rules | `(tactic| walk_at "call builtin:sum") => `(tactic| k_dflt ((k_here; (with_reducible show wpAny _ _ (call (Value.builtin "sum") [Value.ref _]) _ _ _); refine' sumK ?k0 ?k1 ?k2 ?k3 ?k4 ?_; (case k0 => walk_at "mine hh"); (case k1 => k_asm); (case k2 => k_asm); (case k3 => first | assumption | exact News.isList (by k_asm) (by k_mem)); (case k4 => assumption); intro h' tk' t' F' N')))
-- F14
section
def CfFull (its : List Item) (o : Obj) (own : List (Addr × Obj)) : Prop :=
  ∃ li a1 t1 a2 t2 u2 a3 t3 u3 a4 t4 u4, o = dictOf [⟨a1, .str (PySem.Str.ofString "_infos") t1, .ref li⟩, ⟨a2, .str (PySem.Str.ofString "_byte_order") t2, .str (PySem.Str.ofString ">") u2⟩, ⟨a3, .str (PySem.Str.ofString "_number_of_bits_to_unpack") t3, .int (totW its : Nat) u3⟩, ⟨a4, .str (PySem.Str.ofString "_number_of_arguments") t4, .int (cnt its its.length : Nat) u4⟩] 4 ∧ CfIn own its li
variable {w : World} {A : Around} {s : Shared}
section
local macro_rules | `(tactic| walk_at "mine go") => `(tactic| repeat' ((fail_if_success (with_reducible show Ret _ _ _ _)); first | (k_unfold; (try dsimp only)) | ((fail_if_success ((with_reducible show wpAny _ _ (call (Value.ref _) [_, Value.none, _, _] _) _ _ _))); (fail_if_success (with_reducible show wpAny _ _ (exec (Stmt.Raise _ _ _) _) _ _ _)); (fail_if_success (with_reducible show wpAny _ _ (exec (Stmt.For _ _ _ _ _) _) _ _ _)); (fail_if_success (with_reducible show wpAny _ _ (exec (Stmt.While _ _ _ _) _) _ _ _)); (fail_if_success (with_reducible show wpAny _ _ (eval (Expr.ListComp _ _ _ _) _) _ _ _)); (fail_if_success (with_reducible show wpAny _ _ (exec (Stmt.Assign _ (Expr.ListComp _ _ _ _) _) _) _ _ _)); (first | walk1 | (dsimp only; walk1))) | fail "stop"))
theorem cf_init_core {g : Heap} (B : Bas w g) (H : Room A 12) (fs : List Fm) (eb : Bool) (t : Tok) (v4 v5 : Value) (args : List Value) (hne : fs ≠ []) (hsz : (SR.txs (fs.map Fm.tk)).length ≤ 500) (hW : ∀ f ∈ fs, 1 ≤ f.it.W ∧ f.it.W ≤ 100) (x dx : Addr)
    (kp : ∀ b o, g.get? b = some o → s.heap.get? b = some o) (kq : g.objs.size ≤ s.heap.objs.size) (hlt : dx < x)
    (kr : ∀ p ∈ [(x, instObj 507 dx), (dx, dictOf [] 0)], s.heap.get? p.1 = some p.2 ∧ g.get? p.1 = none)
    (hb9 : ∀ oc od fd osl, (Mine.hd.heap_39 w.params).lookup 476 = some ⟨oc, od, .func fd, osl⟩ → BindsTo s fd ⟨args, []⟩ [(PySem.Str.ofString "self", .ref x), (PySem.Str.ofString "fmt", .str (RS.tx (fmtL fs ++ if eb then [62] else [])) t), (PySem.Str.ofString "text_encoding", v4), (PySem.Str.ofString "text_errors", v5)]) :
    codeAny (model PySem.Challenge.pw_bk5003_01 w) A (.call (.ref 476) ⟨args, []⟩) (IRetO s g x dx fun h' own => h'.get? x = some (instObj 507 dx) ∧ ∃ o, h'.get? dx = some o ∧ CfFull (fs.map (·.it)) o own) s := by
  obtain ⟨X, p, loose, mean, mg, mb, T⟩ := B
  k_lt2 hlt
  (k_dflt (refine' enterS (binds := [(PySem.Str.ofString "self", .ref x), (PySem.Str.ofString "fmt", .str (RS.tx (fmtL fs ++ if eb then [62] else [])) t), (PySem.Str.ofString "text_encoding", v4), (PySem.Str.ofString "text_errors", v5)]) ?k1 ?k2 ?kp ?kq ?kr ?k6 ?k7 ?k8 ?k9 ?kB ?_ ?c2 ?c3 ?c4 ?c5; (case k1 => k_asm); (case k2 => exact Top.nolimit (by assumption)); (case kp => first | assumption | exact fun _ _ e => e); (case kq => first | assumption | exact Nat.le_refl _); (case kr => first | assumption | exact (fun _ h => nomatch h : ∀ p ∈ ([] : List (Addr × Obj)), _)); (case k6 => k_is); (case k7 => k_is); (case k8 => first | exact Nat.lt_of_le_of_lt (Nat.le_add_right _ _) (Room.hd (by assumption)) | (have hR9 := Room.hd (by assumption); omega)); (case k9 => first | exact hb9 _ _ _ _ (by k_is) | exact BindsTo.of_eq rfl | exact binds_K (by k_in) rfl (by k_is) rfl rfl rfl | exact binds_K (Frag.In.keeps (by k_asm) (by assumption)) rfl (by k_is) rfl rfl rfl); (case c5 => decide); (case kB => exact locs rfl); (case c2 => exact rfl); (case c3 => exact rfl); (case c4 => exact rfl)); intro L' h' F' N' l1; (try k_lt l1); (try dsimp only); (try k_fold))
  refine ks_wpAt_execs_cons (ks_wpAt_Expr_any (ks_wpAt_MethodCall ?_))
  walk_at "mine go"
  (rename Fr _ _ _ _ => kF); (rename News _ _ _ _ => kN)
  refine use_initO kF kN (by k_ne) (by k_ne) (by k_ne) (by k_ne) (fun g' kk' kp' kq' kr' => cf0_init_spec (Bas.of (by assumption) (by assumption) kk') (by walk_at "mine room") fs eb t v4 v5 hne hsz hW _ _ kp' kq' (by assumption) kr') ?_
  clear kF kN
  rintro h' tk' o own F' N' of' ⟨li, a1, t1, a2, t2, u2, a3, t3, u3, rfl, xs, nl, hli, hxl, hxs⟩
  simp only [List.cons_append, List.nil_append] at N'
  (try dsimp only)
  (try k_fold)
  walk_at "mine go"
  (rename Fr _ _ _ _ => kF); (rename News _ _ _ _ => kN)
  replace kN := News.sub kN (b := (x, _) :: (dx, _) :: own) (fun p hp => .tail _ (.tail _ hp))
  obtain ⟨its, hits⟩ : ∃ its, its = fs.map (·.it) := ⟨_, rfl⟩
  have hxl' : xs.length = its.length := by rw [hits]; exact hxl
  rw [← hits] at hxs kN ⊢
  have hofd : OwnOff own [x, dx] := fun p hp b hb => of' p hp b (.tail _ (.tail _ hb))
  refine for_stmt ?_ (fun _ => rfl)
  walk_at "mine go"
  (rename Fr _ _ _ _ => kF); (rename News _ _ _ _ => kN)
  refine for_list (L := L') (l := li) rfl (fun I k m news => ∃ a4 t4 u4, news = (x, instObj 507 dx) :: (dx, dictOf [⟨a1, .str (PySem.Str.ofString "_infos") t1, .ref li⟩, ⟨a2, .str (PySem.Str.ofString "_byte_order") t2, .str (PySem.Str.ofString ">") u2⟩, ⟨a3, .str (PySem.Str.ofString "_number_of_bits_to_unpack") t3, .int (totW its : Nat) u3⟩, ⟨a4, .str (PySem.Str.ofString "_number_of_arguments") t4, .int (cnt its k : Nat) u4⟩] 4) :: own ∧ MR m (PySem.Str.ofString "self") x) (Room.hhd H) kF kN
    ⟨_, (kN _ (.tail _ (.tail _ hli))).1, rfl, _, rfl⟩ (Ne.symm (kN _ (.tail _ (.tail _ hli))).2.1) (.inr ⟨_, .tail _ (.tail _ hli), ?_⟩) (fun I _ => ⟨_, _, _, rfl, by walk_at "mine look"⟩) ?_ ?_
  · rintro I i m news ⟨a4, t4, u4, rfl, _⟩
    exact .tail _ (.tail _ hli)
  · clear kF kN
    rintro I j v m news h tk oI hv ⟨a4, t4, u4, rfl, m1⟩ kF kN hI
    (try k_fold)
    obtain ⟨a, ha, rfl⟩ : ∃ a, xs[j]? = some a ∧ v = .ref a := by
      rw [List.getElem?_map] at hv
      cases e : xs[j]? with
      | none => rw [e] at hv; cases hv
      | some x => rw [e] at hv; cases hv; exact ⟨x, rfl, rfl⟩
    have hj : j < its.length := by rw [← hxl']; exact (List.getElem?_eq_some_iff.mp ha).1
    obtain ⟨it, hit⟩ : ∃ it, its[j]? = some it := ⟨_, List.getElem?_eq_getElem hj⟩
    obtain ⟨⟨hw, hw2⟩, nm, hI0, _⟩ := hxs j it a hit ha
    have hcnt := cnt_take hit
    have hcj : cnt its j ≤ j := by
      unfold cnt
      exact Nat.le_trans (List.length_filter_le _ _) (by rw [List.length_take]; omega)
    obtain ⟨da, na, es, i1, i2, _⟩ := hI0
    have hIx : @Ne Nat dx I := hI _ (.tail _ (.head _))
    have hIx' : @Ne Nat I dx := fun e => hIx e.symm
    replace kN := News.dup (News.dup kN (.tail _ (.tail _ (.tail _ i2)))) (.tail _ (.tail _ (.tail _ (.tail _ i1))))
    have n1 := off2 hofd i1
    have n2 := off2 hofd i2
    obtain ⟨k, W⟩ := it
    dsimp only at *
    have hnx : ∀ o, ∀ p ∈ (x, instObj 507 dx) :: (dx, o) :: own, p.1 ≠ I := fun o p hp => by
      rcases List.mem_cons.mp hp with rfl | hp
      · exact hI _ (.head _)
      · rcases List.mem_cons.mp hp with rfl | hp
        · exact hIx
        · exact hI _ (.tail _ (.tail _ hp))
    cases k
    case p =>
      have hcu : ((cnt its (j + 1) : Nat) : Int) = (cnt its j : Nat) := by rw [hcnt]; rfl
      walk_at "mine go"
      (rename Fr _ _ _ _ => kF'); (rename News _ _ _ _ => kN')
      refine Turn.mk' kF' (News.sub kN' (b := (I, oI) :: (x, _) :: (dx, _) :: own) (fun p hp => .tail _ (.tail _ hp))) ⟨_, rfl, hnx _, a4, t4, _, by rw [hcu], by walk_at "mine look"⟩
    case q =>
      have hcu : ((cnt its (j + 1) : Nat) : Int) = (cnt its j : Nat) := by rw [hcnt]; rfl
      walk_at "mine go"
      (rename Fr _ _ _ _ => kF'); (rename News _ _ _ _ => kN')
      refine Turn.mk' kF' (News.sub kN' (b := (I, oI) :: (x, _) :: (dx, _) :: own) (fun p hp => .tail _ (.tail _ hp))) ⟨_, rfl, hnx _, a4, t4, _, by rw [hcu], by walk_at "mine look"⟩
    all_goals
      have hcu : ((cnt its (j + 1) : Nat) : Int) = (cnt its j : Nat) + 1 := by rw [hcnt]; rfl
      walk_at "mine go"
      (rename Fr _ _ _ _ => kF'); (rename News _ _ _ _ => kN')
      refine Turn.mk' kF' (News.sub kN' (b := (I, oI) :: (x, _) :: (dx, _) :: own) (fun p hp => .tail _ (.tail _ hp))) ⟨_, rfl, hnx _, a4, t4, _, by rw [hcu], by walk_at "mine look"⟩
  · clear kF kN
    rintro I m news h tk ⟨a4, t4, u4, rfl, m1⟩ kF kN
    (try k_fold)
    have hl : (xs.map Value.ref).length = its.length := by rw [List.length_map]; exact hxl'
    rw [hl] at kN
    walk_at "mine go"
    (rename Fr _ _ _ _ => kF'); (rename News _ _ _ _ => kN')
    refine ⟨_, _, own, rfl, rfl, Fr.keep kF', (fun p hp => ⟨(kN' p (.tail _ (.tail _ hp))).1, (kN' p (.tail _ (.tail _ hp))).2.2, hofd p hp x (.head _), hofd p hp dx (.tail _ (.head _))⟩), (kN' _ (.head _)).1, _, (kN' _ (.tail _ (.head _))).1, li, _, _, _, _, _, _, _, _, _, _, _, rfl, xs, nl, hli, hxl', hxs⟩
end
theorem cf_init_spec {g : Heap} (B : Bas w g) (H : Room A 12) (fs : List Fm) (eb : Bool) (t : Tok) (v4 v5 : Value) (hne : fs ≠ []) (hsz : (SR.txs (fs.map Fm.tk)).length ≤ 500) (hW : ∀ f ∈ fs, 1 ≤ f.it.W ∧ f.it.W ≤ 100) (x dx : Addr)
    (kp : ∀ b o, g.get? b = some o → s.heap.get? b = some o) (kq : g.objs.size ≤ s.heap.objs.size) (hlt : dx < x)
    (kr : ∀ p ∈ [(x, instObj 507 dx), (dx, dictOf [] 0)], s.heap.get? p.1 = some p.2 ∧ g.get? p.1 = none) :
    codeAny (model PySem.Challenge.pw_bk5003_01 w) A (.call (.ref 476) ⟨[.ref x, .str (RS.tx (fmtL fs ++ if eb then [62] else [])) t, v4, v5], []⟩) (IRetO s g x dx fun h' own => h'.get? x = some (instObj 507 dx) ∧ ∃ o, h'.get? dx = some o ∧ CfFull (fs.map (·.it)) o own) s := by
  refine cf_init_core B H fs eb t v4 v5 _ hne hsz hW x dx kp kq hlt kr ?_
  intro oc od fd osl h
  have e : ∃ fd', (Mine.hd.heap_39 w.params).lookup 476 = some ⟨oc, od, .func fd', osl⟩ ∧ BindsTo s fd' ⟨[.ref x, .str (RS.tx (fmtL fs ++ if eb then [62] else [])) t, v4, v5], []⟩ [(PySem.Str.ofString "self", .ref x), (PySem.Str.ofString "fmt", .str (RS.tx (fmtL fs ++ if eb then [62] else [])) t), (PySem.Str.ofString "text_encoding", v4), (PySem.Str.ofString "text_errors", v5)] := ⟨fd, h, by
    have e2 : ∃ oc' od' osl' fd', (Mine.hd.heap_39 w.params).lookup 476 = some ⟨oc', od', .func fd', osl'⟩ ∧ BindsTo s fd' ⟨[.ref x, .str (RS.tx (fmtL fs ++ if eb then [62] else [])) t, v4, v5], []⟩ [(PySem.Str.ofString "self", .ref x), (PySem.Str.ofString "fmt", .str (RS.tx (fmtL fs ++ if eb then [62] else [])) t), (PySem.Str.ofString "text_encoding", v4), (PySem.Str.ofString "text_errors", v5)] := ⟨_, _, _, _, by k_is, by exact binds_K (Frag.In.keeps B.X kp) rfl (by k_is) rfl rfl rfl⟩
    obtain ⟨_, _, _, fd', h1, h2⟩ := e2
    rw [h1] at h; cases h; exact h2⟩
  obtain ⟨fd', h1, h2⟩ := e
  rw [h1] at h; cases h; exact h2
theorem cf_init_spec1 {g : Heap} (B : Bas w g) (H : Room A 12) (fs : List Fm) (eb : Bool) (t : Tok) (hne : fs ≠ []) (hsz : (SR.txs (fs.map Fm.tk)).length ≤ 500) (hW : ∀ f ∈ fs, 1 ≤ f.it.W ∧ f.it.W ≤ 100) (x dx : Addr)
    (kp : ∀ b o, g.get? b = some o → s.heap.get? b = some o) (kq : g.objs.size ≤ s.heap.objs.size) (hlt : dx < x)
    (kr : ∀ p ∈ [(x, instObj 507 dx), (dx, dictOf [] 0)], s.heap.get? p.1 = some p.2 ∧ g.get? p.1 = none) :
    codeAny (model PySem.Challenge.pw_bk5003_01 w) A (.call (.ref 476) ⟨[.ref x, .str (RS.tx (fmtL fs ++ if eb then [62] else [])) t], []⟩) (IRetO s g x dx fun h' own => h'.get? x = some (instObj 507 dx) ∧ ∃ o, h'.get? dx = some o ∧ CfFull (fs.map (·.it)) o own) s := by
  have e2 : ∃ oc' od' osl' fd', (Mine.hd.heap_39 w.params).lookup 476 = some ⟨oc', od', .func fd', osl'⟩ ∧ BindsTo s fd' ⟨[.ref x, .str (RS.tx (fmtL fs ++ if eb then [62] else [])) t], []⟩ [(PySem.Str.ofString "self", .ref x), (PySem.Str.ofString "fmt", .str (RS.tx (fmtL fs ++ if eb then [62] else [])) t), (PySem.Str.ofString "text_encoding", .str (PySem.Str.ofString "utf-8") 1023), (PySem.Str.ofString "text_errors", .str (PySem.Str.ofString "strict") 1024)] := ⟨_, _, _, _, by k_is, by exact binds_K (Frag.In.keeps B.X kp) rfl (by k_is) rfl rfl rfl⟩
  obtain ⟨_, _, _, fd', h1, h2⟩ := e2
  refine cf_init_core B H fs eb t (.str (PySem.Str.ofString "utf-8") 1023) (.str (PySem.Str.ofString "strict") 1024) _ hne hsz hW x dx kp kq hlt kr ?_
  intro oc od fd osl h
  rw [h1] at h; cases h; exact h2
end
-- F2
section
variable {w : World} {A : Around} {s : Shared}
theorem hexL_noL (l : List UInt8) : ∀ c ∈ RB.hexL l, (PySem.Str.ofString "L").cps.contains c = false := by
  intro c hc
  have := BT.dig_hexL l c hc
  have e : (PySem.Str.ofString "L").cps = #[76] := rfl
  rw [e]
  cases h : (#[76] : Array Nat).contains c with
  | false => rfl
  | true =>
    have h2 : c = 76 := by simpa using h
    subst h2
    obtain ⟨d, h3, h4⟩ := this
    have h5 : NumText.digit? 76 = some 21 := rfl
    rw [h5] at h3; cases h3; omega
theorem unpack_ba_spec (B : Bas w s.heap) (H : Room A 5) (W n : Nat) (t u : Tok) (hw : 1 ≤ W) (hw2 : W ≤ 450) (hn : n < 2 ^ W) :
    codeAny (model PySem.Challenge.pw_bk5003_01 w) A (.call (.ref 404) ⟨[.int (W : Int) t, .str (RS.tx (BT.bl W n)) u], []⟩) (Ret s fun v _ => ∃ t, v = .bytes (BT.toB ((W + 7) / 8) (n * 2 ^ (8 * ((W + 7) / 8) - W))).toArray t) s := by
  obtain ⟨X, p, loose, mean, mg, mb, T⟩ := B
  obtain ⟨k, hk⟩ : ∃ k, k = (W + 7) / 8 := ⟨_, rfl⟩
  obtain ⟨P, hP⟩ : ∃ P, P = 8 * k - W := ⟨_, rfl⟩
  rw [← hk, ← hP]
  have hWP : W + P = 8 * k := by omega
  have hN : n * 2 ^ P < 256 ^ k := by rw [BT.pow_256, ← hWP, Nat.pow_add]; exact (Nat.mul_lt_mul_right (Nat.two_pow_pos P)).mpr hn
  have hF : 128 * 256 ^ k + n * 2 ^ P < 2 ^ (8 + (W + P)) := by rw [Nat.pow_add, hWP, ← BT.pow_256]; omega
  have ef : ((W : Nat) : Int).fmod 8 = ((W % 8 : Nat) : Int) := by rw [Int.fmod_eq_emod_of_nonneg _ (by decide)]; rfl
  have e1 : Txt.mul (PySem.Str.ofString "0") (8 - ((W : Nat) : Int).fmod 8) = RS.tx (List.replicate (8 - W % 8) 48) := by
    rw [ef, show (8 : Int) - ((W % 8 : Nat) : Int) = ((8 - W % 8 : Nat) : Int) by omega]
    exact RS.tx_mul1 48 _
  have e2 : W % 8 ≠ 0 → RS.tx (BT.bl W n) ++ RS.tx (List.replicate (8 - W % 8) 48) = RS.tx (BT.bl (W + P) (n * 2 ^ P)) := by
    intro h
    rw [RS.tx_app, ← BT.bl_zero, show 8 - W % 8 = P by omega, BT.bl_app' (Nat.two_pow_pos P)]; rfl
  have e3 : PySem.Str.ofString "10000000" ++ RS.tx (BT.bl (W + P) (n * 2 ^ P)) = RS.tx (BT.bl (8 + (W + P)) (128 * 256 ^ k + n * 2 ^ P)) := by
    have : PySem.Str.ofString "10000000" = RS.tx (BT.bl 8 128) := rfl
    rw [this, RS.tx_app, BT.bl_app' (by rw [hWP, ← BT.pow_256]; exact hN), hWP, ← BT.pow_256]
  have e4 := RS.hex_bl k (n * 2 ^ P) hN
  have e5 : Txt.slice (RS.tx (48 :: 120 :: 56 :: 48 :: RB.hexL (BT.toB k (n * 2 ^ P)))) (some 4) none = RS.tx (RB.hexL (BT.toB k (n * 2 ^ P))) :=
    RS.tx_from _ 4 (by simp only [List.length_cons]; omega)
  have e6 := RS.rstrip_no (RB.hexL (BT.toB k (n * 2 ^ P))) (PySem.Str.ofString "L") (hexL_noL _)
  have hl : (BT.toB k (n * 2 ^ P)).length ≤ 450 := by rw [BT.toB_length]; omega
  (k_dflt (refine' enter (binds := [(PySem.Str.ofString "size", .int (W : Int) t), (PySem.Str.ofString "bits", .str (RS.tx (BT.bl W n)) u)]) ?k1 ?k2 ?k6 ?k7 ?k8 ?k9 ?kB ?_ ?c2 ?c3 ?c4 ?c5; (case k1 => k_asm); (case k2 => exact Top.nolimit (by assumption)); (case k6 => k_is); (case k7 => k_is); (case k8 => first | exact Nat.lt_of_le_of_lt (Nat.le_add_right _ _) (Room.hd (by assumption)) | (have hR9 := Room.hd (by assumption); omega)); (case k9 => first | exact hb9 _ _ _ _ (by k_is) | exact BindsTo.of_eq rfl | exact binds_K (by k_in) rfl (by k_is) rfl rfl rfl); (case c5 => decide); (case kB => exact locs rfl); (case c2 => exact rfl); (case c3 => exact rfl); (case c4 => exact rfl)); intro L' h' F' N'; (try dsimp only); (try k_fold))
  rcases Nat.eq_zero_or_pos (W % 8) with h0 | h0
  · have e0 : ((W : Nat) : Int).fmod 8 = 0 := by rw [ef, h0]; rfl
    have hP0 : P = 0 := by omega
    have e3' : PySem.Str.ofString "10000000" ++ RS.tx (BT.bl W n) = RS.tx (BT.bl (8 + (W + P)) (128 * 256 ^ k + n * 2 ^ P)) := by
      rw [← e3, hP0]; simp
    walk_at "mine go"
    (exact ⟨_, _, _, [], rfl, rfl, Fr.keep (by assumption), (fun _ h => nomatch h), _, rfl⟩)
  · have e2' := e2 (by omega)
    walk_at "mine go"
    (exact ⟨_, _, _, [], rfl, rfl, Fr.keep (by assumption), (fun _ h => nomatch h), _, rfl⟩)
end
local macro_rules | `(tactic| walk_at "call ref") => `(tactic| k_dflt ((k_here; k_dflt (refine' use_spec0 ?F ?N (unpack_ba_spec ?B ?H _ _ _ _ ?hw ?hw2 ?hn) ?_; (case F => k_asm); (case N => k_asm); (case B => walk_at "mine bas"); (case H => walk_at "mine room"); (case hw => walk_at "mine side"); (case hw2 => walk_at "mine side"); (case hn => walk_at "mine side")); intro v' h' tk' own' F' N' pv'; k_sweep; (obtain ⟨t', e'⟩ := pv'; subst e'); (try dsimp only); (try k_fold))))

-- F3
section
variable {w : World} {A : Around} {s : Shared}
/-- the first W bits of the octets -/
theorem pack_ba_spec (B : Bas w s.heap) (H : Room A 5) (W : Nat) (bs : List UInt8) (t u : Tok) (hl : bs.length ≤ 100) (hw2 : W ≤ 8 * bs.length) :
    codeAny (model PySem.Challenge.pw_bk5003_01 w) A (.call (.ref 397) ⟨[.int (W : Int) t, .bytes bs.toArray u], []⟩) (Ret s fun v _ => ∃ t, v = .str (RS.tx (BT.bl W (BT.fromB bs / 2 ^ (8 * bs.length - W)))) t) s := by
  obtain ⟨X, p, loose, mean, mg, mb, T⟩ := B
  have e1 : (#[48, 49] : Array UInt8) ++ (RE.asciiL (RB.hexL bs)).toArray = (48 :: 49 :: RE.asciiL (RB.hexL bs)).toArray := by simp
  have hlt := BT.fromB_lt bs
  have e2 := RS.bin_bl (8 * bs.length) (BT.fromB bs) (by rw [← BT.pow_256]; exact hlt)
  rw [← BT.pow_256] at e2
  have e3 : Txt.slice (RS.tx (48 :: 98 :: 49 :: BT.bl (8 * bs.length) (BT.fromB bs))) (some 3) (some ((W : Int) + 3)) = RS.tx (BT.bl W (BT.fromB bs / 2 ^ (8 * bs.length - W))) := by
    rw [show ((W : Int) + 3) = ((W + 3 : Nat) : Int) by omega]
    rw [show (3 : Int) = ((3 : Nat) : Int) from rfl, RS.tx_mid _ 3 (W + 3) (by omega) (by simp only [List.length_cons, BT.bl_length]; omega)]
    show RS.tx (List.take (W + 3 - 3) (BT.bl (8 * bs.length) (BT.fromB bs))) = _
    rw [show W + 3 - 3 = W by omega]
    conv => lhs; rw [show 8 * bs.length = W + (8 * bs.length - W) by omega, BT.bl_take]
  (k_dflt (refine' enter (binds := [(PySem.Str.ofString "size", .int (W : Int) t), (PySem.Str.ofString "arg", .bytes bs.toArray u)]) ?k1 ?k2 ?k6 ?k7 ?k8 ?k9 ?kB ?_ ?c2 ?c3 ?c4 ?c5; (case k1 => k_asm); (case k2 => exact Top.nolimit (by assumption)); (case k6 => k_is); (case k7 => k_is); (case k8 => first | exact Nat.lt_of_le_of_lt (Nat.le_add_right _ _) (Room.hd (by assumption)) | (have hR9 := Room.hd (by assumption); omega)); (case k9 => first | exact hb9 _ _ _ _ (by k_is) | exact BindsTo.of_eq rfl | exact binds_K (by k_in) rfl (by k_is) rfl rfl rfl); (case c5 => decide); (case kB => exact locs rfl); (case c2 => exact rfl); (case c3 => exact rfl); (case c4 => exact rfl)); intro L' h' F' N'; (try dsimp only); (try k_fold))
  walk_at "mine go"
  (exact ⟨_, _, _, [], rfl, rfl, Fr.keep (by assumption), (fun _ h => nomatch h), _, rfl⟩)
end
local macro_rules | `(tactic| walk_at "call ref") => `(tactic| k_dflt ((k_here; k_dflt (refine' use_spec0 ?F ?N (pack_ba_spec ?B ?H _ _ _ _ ?hl ?hw2) ?_; (case F => k_asm); (case N => k_asm); (case B => walk_at "mine bas"); (case H => walk_at "mine room"); (case hl => walk_at "mine side"); (case hw2 => walk_at "mine side")); intro v' h' tk' own' F' N' pv'; k_sweep; (obtain ⟨t', e'⟩ := pv'; subst e'); (try dsimp only); (try k_fold))))

-- F4
section
variable {w : World} {A : Around} {s : Shared}
theorem packu_spec (B : Bas w s.heap) (H : Room A 5) (k : Kd) (hk : k = .u ∨ k = .b) (x : Addr) (W N : Nat) (nm : Value) (i : Int) (t : Tok) (hi : i = (N : Int)) (I : IsInfo s.heap x k W nm) (hw : 1 ≤ W) (hw2 : W ≤ 450) (hn : N < 2 ^ W) :
    codeAny (model PySem.Challenge.pw_bk5003_01 w) A (.call (.ref 157) ⟨[.ref x, .int i t], []⟩) (Ret s fun v _ => ∃ t, v = .str (RS.tx (BT.bl W N)) t) s := by
  subst hi
  obtain ⟨X, p, loose, mean, mg, mb, T⟩ := B
  obtain ⟨dx, n, es, I, J⟩ := I
  have J2 : InfoEs .u W nm es := by rcases hk with rfl | rfl <;> exact J
  obtain ⟨a1, t1, u1, a2, t2, a3, t3, u3, a4, t4, u4, rfl⟩ := J2
  have e0 : ¬ ((2 : Int) ^ W - 1 < (N : Int)) := by
    have : ((2 ^ W : Nat) : Int) = (2 : Int) ^ W := by rw [Int.natCast_pow]; rfl
    omega
  have e1 : baseText "0b" 2 ((N : Int) + 1 * 2 ^ ((W : Int)).toNat) = RS.tx (48 :: 98 :: 49 :: BT.bl W N) := by
    rw [← RS.bin_bl W N hn]
    refine congrArg _ ?_
    rw [Int.toNat_natCast, Int.natCast_add, Int.natCast_pow, Int.one_mul, Int.add_comm]; rfl
  have e2 : Txt.slice (RS.tx (48 :: 98 :: 49 :: BT.bl W N)) (some 3) none = RS.tx (BT.bl W N) := RS.tx_from _ 3 (by simp only [List.length_cons]; omega)
  rcases hk with rfl | rfl
  · (k_dflt (refine' enter (binds := [(PySem.Str.ofString "self", .ref x), (PySem.Str.ofString "arg", .int (N : Int) t)]) ?k1 ?k2 ?k6 ?k7 ?k8 ?k9 ?kB ?_ ?c2 ?c3 ?c4 ?c5; (case k1 => k_asm); (case k2 => exact Top.nolimit (by assumption)); (case k6 => k_is); (case k7 => k_is); (case k8 => first | exact Nat.lt_of_le_of_lt (Nat.le_add_right _ _) (Room.hd (by assumption)) | (have hR9 := Room.hd (by assumption); omega)); (case k9 => first | exact hb9 _ _ _ _ (by k_is) | exact BindsTo.of_eq rfl | exact binds_K (by k_in) rfl (by k_is) rfl rfl rfl); (case c5 => decide); (case kB => exact locs rfl); (case c2 => exact rfl); (case c3 => exact rfl); (case c4 => exact rfl)); intro L' h' F' N'; (try dsimp only); (try k_fold))
    walk_at "mine go"
    (exact ⟨_, _, _, [], rfl, rfl, Fr.keep (by assumption), (fun _ h => nomatch h), _, rfl⟩)
  · (k_dflt (refine' enter (binds := [(PySem.Str.ofString "self", .ref x), (PySem.Str.ofString "arg", .int (N : Int) t)]) ?k1 ?k2 ?k6 ?k7 ?k8 ?k9 ?kB ?_ ?c2 ?c3 ?c4 ?c5; (case k1 => k_asm); (case k2 => exact Top.nolimit (by assumption)); (case k6 => k_is); (case k7 => k_is); (case k8 => first | exact Nat.lt_of_le_of_lt (Nat.le_add_right _ _) (Room.hd (by assumption)) | (have hR9 := Room.hd (by assumption); omega)); (case k9 => first | exact hb9 _ _ _ _ (by k_is) | exact BindsTo.of_eq rfl | exact binds_K (by k_in) rfl (by k_is) rfl rfl rfl); (case c5 => decide); (case kB => exact locs rfl); (case c2 => exact rfl); (case c3 => exact rfl); (case c4 => exact rfl)); intro L' h' F' N'; (try dsimp only); (try k_fold))
    walk_at "mine go"
    (exact ⟨_, _, _, [], rfl, rfl, Fr.keep (by assumption), (fun _ h => nomatch h), _, rfl⟩)
theorem packs_spec (B : Bas w s.heap) (H : Room A 5) (x : Addr) (W N : Nat) (nm : Value) (t : Tok) (I : IsInfo s.heap x .s W nm) (hw : 1 ≤ W) (hw2 : W ≤ 450) (hn : N < 2 ^ W) :
    codeAny (model PySem.Challenge.pw_bk5003_01 w) A (.call (.ref 122) ⟨[.ref x, .int (toS W N) t], []⟩) (Ret s fun v _ => ∃ t, v = .str (RS.tx (BT.bl W N)) t) s := by
  obtain ⟨X, p, loose, mean, mg, mb, T⟩ := B
  obtain ⟨dx, n, es, I, J⟩ := I
  obtain ⟨a1, t1, u1, a2, t2, a3, t3, u3, a4, t4, u4, a5, t5, u5, rfl⟩ := J
  have p1 : ((2 ^ W : Nat) : Int) = (2 : Int) ^ W := by rw [Int.natCast_pow]; rfl
  have p2 : ((2 ^ (W - 1) : Nat) : Int) = (2 : Int) ^ (W - 1) := by rw [Int.natCast_pow]; rfl
  have p3 : 2 ^ W = 2 * 2 ^ (W - 1) := by rw [← Nat.pow_succ']; congr 1; omega
  have e2 : Txt.slice (RS.tx (48 :: 98 :: 49 :: BT.bl W N)) (some 3) none = RS.tx (BT.bl W N) := RS.tx_from _ 3 (by simp only [List.length_cons]; omega)
  rcases Nat.lt_or_ge N (2 ^ (W - 1)) with h | h
  · have eS : toS W N = (N : Int) := if_pos h
    rw [eS]
    have e1 : baseText "0b" 2 ((N : Int) + 1 * 2 ^ ((W : Int)).toNat) = RS.tx (48 :: 98 :: 49 :: BT.bl W N) := by
      rw [← RS.bin_bl W N hn]
      refine congrArg _ ?_
      rw [Int.toNat_natCast, Int.natCast_add, Int.natCast_pow, Int.one_mul, Int.add_comm]; rfl
    have g1 : ¬ ((N : Int) < -2 ^ (W - 1)) := by omega
    have g2 : ¬ ((2 : Int) ^ (W - 1) - 1 < (N : Int)) := by omega
    (k_dflt (refine' enter (binds := [(PySem.Str.ofString "self", .ref x), (PySem.Str.ofString "arg", .int (N : Int) t)]) ?k1 ?k2 ?k6 ?k7 ?k8 ?k9 ?kB ?_ ?c2 ?c3 ?c4 ?c5; (case k1 => k_asm); (case k2 => exact Top.nolimit (by assumption)); (case k6 => k_is); (case k7 => k_is); (case k8 => first | exact Nat.lt_of_le_of_lt (Nat.le_add_right _ _) (Room.hd (by assumption)) | (have hR9 := Room.hd (by assumption); omega)); (case k9 => first | exact hb9 _ _ _ _ (by k_is) | exact BindsTo.of_eq rfl | exact binds_K (by k_in) rfl (by k_is) rfl rfl rfl); (case c5 => decide); (case kB => exact locs rfl); (case c2 => exact rfl); (case c3 => exact rfl); (case c4 => exact rfl)); intro L' h' F' N'; (try dsimp only); (try k_fold))
    walk_at "mine go"
    (exact ⟨_, _, _, [], rfl, rfl, Fr.keep (by assumption), (fun _ h => nomatch h), _, rfl⟩)
  · obtain ⟨z, hz⟩ : ∃ z, z = toS W N := ⟨_, rfl⟩
    have eS : toS W N = (N : Int) - 2 ^ W := if_neg (Nat.not_lt.mpr h)
    rw [eS] at hz
    rw [eS, ← hz]
    have e1 : baseText "0b" 2 (z + 1 * 2 ^ ((W : Int)).toNat + 1 * 2 ^ ((W : Int)).toNat) = RS.tx (48 :: 98 :: 49 :: BT.bl W N) := by
      rw [← RS.bin_bl W N hn]
      refine congrArg _ ?_
      rw [Int.toNat_natCast, Int.natCast_add, Int.natCast_pow, Int.one_mul, hz, Int.sub_add_cancel, Int.add_comm]; rfl
    have g1 : ¬ (z < -2 ^ (W - 1)) := by omega
    have g2 : ¬ ((2 : Int) ^ (W - 1) - 1 < z) := by omega
    have g3 : z < 0 := by omega
    (k_dflt (refine' enter (binds := [(PySem.Str.ofString "self", .ref x), (PySem.Str.ofString "arg", .int z t)]) ?k1 ?k2 ?k6 ?k7 ?k8 ?k9 ?kB ?_ ?c2 ?c3 ?c4 ?c5; (case k1 => k_asm); (case k2 => exact Top.nolimit (by assumption)); (case k6 => k_is); (case k7 => k_is); (case k8 => first | exact Nat.lt_of_le_of_lt (Nat.le_add_right _ _) (Room.hd (by assumption)) | (have hR9 := Room.hd (by assumption); omega)); (case k9 => first | exact hb9 _ _ _ _ (by k_is) | exact BindsTo.of_eq rfl | exact binds_K (by k_in) rfl (by k_is) rfl rfl rfl); (case c5 => decide); (case kB => exact locs rfl); (case c2 => exact rfl); (case c3 => exact rfl); (case c4 => exact rfl)); intro L' h' F' N'; (try dsimp only); (try k_fold))
    walk_at "mine go"
    (exact ⟨_, _, _, [], rfl, rfl, Fr.keep (by assumption), (fun _ h => nomatch h), _, rfl⟩)
local macro_rules | `(tactic| walk_at "call ref") => `(tactic| k_dflt ((k_here; k_dflt (refine' use_meth ?F ?N ?q (packu_spec ?B ?H _ (.inr rfl) _ _ _ _ _ _ ?hi ?I ?hw ?hw2 ?hn) ?_; (case F => k_asm); (case N => k_asm); (case q => k_mem); (case B => walk_at "mine bas"); (case H => walk_at "mine room"); (case hi => walk_at "mine side"); (case I => walk_at "mine side"); (case hw => walk_at "mine side"); (case hw2 => walk_at "mine side"); (case hn => walk_at "mine side")); intro v' h' tk' own' F' N' pv'; k_sweep; (obtain ⟨t', e'⟩ := pv'; subst e'); (try dsimp only); (try k_fold))))

theorem packb_spec (B : Bas w s.heap) (H : Room A 7) (x : Addr) (W N : Nat) (nm : Value) (I : IsInfo s.heap x .b W nm) (hw : 1 ≤ W) (hw2 : W ≤ 450) (hn : N ≤ 1) :
    codeAny (model PySem.Challenge.pw_bk5003_01 w) A (.call (.ref 185) ⟨[.ref x, .bool (N == 1)], []⟩) (Ret s fun v _ => ∃ t, v = .str (RS.tx (BT.bl W N)) t) s := by
  obtain ⟨X, p, loose, mean, mg, mb, T⟩ := B
  have I0 := I
  obtain ⟨dx, n, es, I, J⟩ := I
  obtain ⟨a1, t1, u1, a2, t2, a3, t3, u3, a4, t4, u4, rfl⟩ := J
  have eN : (if (N == 1) = true then 1 else 0 : Int) = (N : Int) := by
    rcases Nat.le_one_iff_eq_zero_or_eq_one.mp hn with rfl | rfl <;> rfl
  have eP : N < 2 ^ W := Nat.lt_of_le_of_lt hn (Nat.one_lt_two_pow (by omega))
  (k_dflt (refine' enterS (binds := [(PySem.Str.ofString "self", .ref x), (PySem.Str.ofString "arg", .bool (N == 1))]) ?k1 ?k2 ?kp ?kq ?kr ?k6 ?k7 ?k8 ?k9 ?kB ?_ ?c2 ?c3 ?c4 ?c5; (case k1 => k_asm); (case k2 => exact Top.nolimit (by assumption)); (case kp => first | assumption | exact fun _ _ e => e); (case kq => first | assumption | exact Nat.le_refl _); (case kr => first | assumption | exact (fun _ h => nomatch h : ∀ p ∈ ([] : List (Addr × Obj)), _)); (case k6 => k_is); (case k7 => k_is); (case k8 => first | exact Nat.lt_of_le_of_lt (Nat.le_add_right _ _) (Room.hd (by assumption)) | (have hR9 := Room.hd (by assumption); omega)); (case k9 => first | exact hb9 _ _ _ _ (by k_is) | exact BindsTo.of_eq rfl | exact binds_K (by k_in) rfl (by k_is) rfl rfl rfl | exact binds_K (Frag.In.keeps (by k_asm) (by assumption)) rfl (by k_is) rfl rfl rfl); (case c5 => decide); (case kB => exact locs rfl); (case c2 => exact rfl); (case c3 => exact rfl); (case c4 => exact rfl)); intro L' h' F' N' l1; (try k_lt l1); (try dsimp only); (try k_fold))
  refine ks_wpAt_execs_cons (ks_wpAt_Return_some (ks_wpAt_MethodCall ?_))
  walk_at "mine go"
  (exact ⟨_, _, _, [], rfl, rfl, Fr.keep (by assumption), (fun _ h => nomatch h), _, rfl⟩)
theorem packp_spec (B : Bas w s.heap) (H : Room A 5) (x : Addr) (W : Nat) (nm : Value) (I : IsInfo s.heap x .p W nm) (hw2 : W ≤ 450) :
    codeAny (model PySem.Challenge.pw_bk5003_01 w) A (.call (.ref 326) ⟨[.ref x], []⟩) (Ret s fun v _ => ∃ t, v = .str (RS.tx (BT.bl W 0)) t) s := by
  obtain ⟨X, p, loose, mean, mg, mb, T⟩ := B
  obtain ⟨dx, n, es, I, J⟩ := I
  obtain ⟨a1, t1, u1, a2, t2, a3, t3, u3, rfl⟩ := J
  have e : Txt.mul (PySem.Str.ofString "0") (W : Int) = RS.tx (BT.bl W 0) := by rw [BT.bl_zero]; exact RS.tx_mul1 48 W
  (k_dflt (refine' enter (binds := [(PySem.Str.ofString "self", .ref x)]) ?k1 ?k2 ?k6 ?k7 ?k8 ?k9 ?kB ?_ ?c2 ?c3 ?c4 ?c5; (case k1 => k_asm); (case k2 => exact Top.nolimit (by assumption)); (case k6 => k_is); (case k7 => k_is); (case k8 => first | exact Nat.lt_of_le_of_lt (Nat.le_add_right _ _) (Room.hd (by assumption)) | (have hR9 := Room.hd (by assumption); omega)); (case k9 => first | exact hb9 _ _ _ _ (by k_is) | exact BindsTo.of_eq rfl | exact binds_K (by k_in) rfl (by k_is) rfl rfl rfl); (case c5 => decide); (case kB => exact locs rfl); (case c2 => exact rfl); (case c3 => exact rfl); (case c4 => exact rfl)); intro L' h' F' N'; (try dsimp only); (try k_fold))
  walk_at "mine go"
  (exact ⟨_, _, _, [], rfl, rfl, Fr.keep (by assumption), (fun _ h => nomatch h), _, rfl⟩)
theorem packq_spec (B : Bas w s.heap) (H : Room A 5) (x : Addr) (W : Nat) (nm : Value) (I : IsInfo s.heap x .q W nm) (hw2 : W ≤ 450) :
    codeAny (model PySem.Challenge.pw_bk5003_01 w) A (.call (.ref 345) ⟨[.ref x], []⟩) (Ret s fun v _ => ∃ t, v = .str (RS.tx (BT.bl W (2 ^ W - 1))) t) s := by
  obtain ⟨X, p, loose, mean, mg, mb, T⟩ := B
  obtain ⟨dx, n, es, I, J⟩ := I
  obtain ⟨a1, t1, u1, a2, t2, a3, t3, u3, rfl⟩ := J
  have e : Txt.mul (PySem.Str.ofString "1") (W : Int) = RS.tx (BT.bl W (2 ^ W - 1)) := by rw [BT.bl_ones]; exact RS.tx_mul1 49 W
  (k_dflt (refine' enter (binds := [(PySem.Str.ofString "self", .ref x)]) ?k1 ?k2 ?k6 ?k7 ?k8 ?k9 ?kB ?_ ?c2 ?c3 ?c4 ?c5; (case k1 => k_asm); (case k2 => exact Top.nolimit (by assumption)); (case k6 => k_is); (case k7 => k_is); (case k8 => first | exact Nat.lt_of_le_of_lt (Nat.le_add_right _ _) (Room.hd (by assumption)) | (have hR9 := Room.hd (by assumption); omega)); (case k9 => first | exact hb9 _ _ _ _ (by k_is) | exact BindsTo.of_eq rfl | exact binds_K (by k_in) rfl (by k_is) rfl rfl rfl); (case c5 => decide); (case kB => exact locs rfl); (case c2 => exact rfl); (case c3 => exact rfl); (case c4 => exact rfl)); intro L' h' F' N'; (try dsimp only); (try k_fold))
  walk_at "mine go"
  (exact ⟨_, _, _, [], rfl, rfl, Fr.keep (by assumption), (fun _ h => nomatch h), _, rfl⟩)
end
local macro_rules | `(tactic| walk_at "call ref") => `(tactic| k_dflt ((k_here; k_dflt (refine' use_spec0 ?F ?N (packu_spec ?B ?H _ (.inl rfl) _ _ _ _ _ _ rfl ?I ?hw ?hw2 ?hn) ?_; (case F => k_asm); (case N => k_asm); (case B => walk_at "mine bas"); (case H => walk_at "mine room"); (case I => walk_at "mine side"); (case hw => walk_at "mine side"); (case hw2 => walk_at "mine side"); (case hn => walk_at "mine side")); intro v' h' tk' own' F' N' pv'; k_sweep; (obtain ⟨t', e'⟩ := pv'; subst e'); (try dsimp only); (try k_fold))))

local macro_rules | `(tactic| walk_at "call ref") => `(tactic| k_dflt ((k_here; k_dflt (refine' use_spec0 ?F ?N (packs_spec ?B ?H _ _ _ _ _ ?I ?hw ?hw2 ?hn) ?_; (case F => k_asm); (case N => k_asm); (case B => walk_at "mine bas"); (case H => walk_at "mine room"); (case I => walk_at "mine side"); (case hw => walk_at "mine side"); (case hw2 => walk_at "mine side"); (case hn => walk_at "mine side")); intro v' h' tk' own' F' N' pv'; k_sweep; (obtain ⟨t', e'⟩ := pv'; subst e'); (try dsimp only); (try k_fold))))

local macro_rules | `(tactic| walk_at "call ref") => `(tactic| k_dflt ((k_here; k_dflt (refine' use_spec0 ?F ?N (packb_spec ?B ?H _ _ _ _ ?I ?hw ?hw2 ?hn) ?_; (case F => k_asm); (case N => k_asm); (case B => walk_at "mine bas"); (case H => walk_at "mine room"); (case I => walk_at "mine side"); (case hw => walk_at "mine side"); (case hw2 => walk_at "mine side"); (case hn => walk_at "mine side")); intro v' h' tk' own' F' N' pv'; k_sweep; (obtain ⟨t', e'⟩ := pv'; subst e'); (try dsimp only); (try k_fold))))

local macro_rules | `(tactic| walk_at "call ref") => `(tactic| k_dflt ((k_here; k_dflt (refine' use_spec0 ?F ?N (packp_spec ?B ?H _ _ _ ?I ?hw2) ?_; (case F => k_asm); (case N => k_asm); (case B => walk_at "mine bas"); (case H => walk_at "mine room"); (case I => walk_at "mine side"); (case hw2 => walk_at "mine side")); intro v' h' tk' own' F' N' pv'; k_sweep; (obtain ⟨t', e'⟩ := pv'; subst e'); (try dsimp only); (try k_fold))))

local macro_rules | `(tactic| walk_at "call ref") => `(tactic| k_dflt ((k_here; k_dflt (refine' use_spec0 ?F ?N (packq_spec ?B ?H _ _ _ ?I ?hw2) ?_; (case F => k_asm); (case N => k_asm); (case B => walk_at "mine bas"); (case H => walk_at "mine room"); (case I => walk_at "mine side"); (case hw2 => walk_at "mine side")); intro v' h' tk' own' F' N' pv'; k_sweep; (obtain ⟨t', e'⟩ := pv'; subst e'); (try dsimp only); (try k_fold))))

-- F5
section
variable {w : World} {A : Around} {s : Shared}
theorem fmod8 (W : Nat) : ((W : Nat) : Int).fmod 8 = ((W % 8 : Nat) : Int) := by rw [Int.fmod_eq_emod_of_nonneg _ (by decide)]; rfl
theorem packr_spec (B : Bas w s.heap) (H : Room A 7) (x : Addr) (W N : Nat) (nm : Value) (t : Tok) (I : IsInfo s.heap x .r W nm) (hw : 1 ≤ W) (hw2 : W ≤ 450) (hn : N < 2 ^ W) :
    codeAny (model PySem.Challenge.pw_bk5003_01 w) A (.call (.ref 288) ⟨[.ref x, .bytes (BT.toB ((W + 7) / 8) (N * 2 ^ (8 * ((W + 7) / 8) - W))).toArray t], []⟩) (Ret s fun v _ => ∃ t, v = .str (RS.tx (BT.bl W N)) t) s := by
  obtain ⟨X, p, loose, mean, mg, mb, T⟩ := B
  obtain ⟨dx, n, es, I, J⟩ := I
  obtain ⟨a1, t1, u1, a2, t2, a3, t3, u3, rfl⟩ := J
  obtain ⟨k, hk⟩ : ∃ k, k = (W + 7) / 8 := ⟨_, rfl⟩
  obtain ⟨P, hP⟩ : ∃ P, P = 8 * k - W := ⟨_, rfl⟩
  rw [← hk, ← hP]
  obtain ⟨bs, hbs⟩ : ∃ bs, bs = BT.toB k (N * 2 ^ P) := ⟨_, rfl⟩
  have hl : bs.length = k := by rw [hbs, BT.toB_length]
  have hf : BT.fromB bs = N * 2 ^ P := by
    rw [hbs, BT.from_toB, Nat.mod_eq_of_lt]
    rw [BT.pow_256, show 8 * k = W + P by omega, Nat.pow_add]; exact (Nat.mul_lt_mul_right (Nat.two_pow_pos P)).mpr hn
  rw [← hbs]
  have q1 : ((W : Int) - 8 * ((bs.toArray.size : Nat) : Int)).fdiv 8 = -1 ∨ ((W : Int) - 8 * ((bs.toArray.size : Nat) : Int)).fdiv 8 = 0 := by
    rw [List.size_toArray, hl, Int.fdiv_eq_ediv_of_nonneg _ (by decide)]; omega
  have q2 : (List.replicate (((W : Int) - 8 * ((bs.toArray.size : Nat) : Int)).fdiv 8).toNat [(0 : UInt8)]).flatten = [] := by
    rcases q1 with q | q <;> rw [q] <;> rfl
  have q3 : bs.toArray ++ ([] : List UInt8).toArray = bs.toArray := by simp
  have q4 : #[48, 49] ++ (RE.asciiL (RB.hexL bs)).toArray = (48 :: 49 :: RE.asciiL (RB.hexL bs)).toArray := by simp
  have hlt := BT.fromB_lt bs
  have q5 := RS.bin_bl (8 * bs.length) (BT.fromB bs) (by rw [← BT.pow_256]; exact hlt)
  rw [← BT.pow_256] at q5
  have q6 : Txt.slice (RS.tx (48 :: 98 :: 49 :: BT.bl (8 * bs.length) (BT.fromB bs))) (some 3) (some ((W : Int) + 3)) = RS.tx (BT.bl W N) := by
    rw [show ((W : Int) + 3) = ((W + 3 : Nat) : Int) by omega]
    rw [show (3 : Int) = ((3 : Nat) : Int) from rfl, RS.tx_mid _ 3 (W + 3) (by omega) (by simp only [List.length_cons, BT.bl_length]; omega)]
    show RS.tx (List.take (W + 3 - 3) (BT.bl (8 * bs.length) (BT.fromB bs))) = _
    rw [show W + 3 - 3 = W by omega, hf]
    conv => lhs; rw [show 8 * bs.length = W + P by omega, BT.bl_take, Nat.mul_div_cancel _ (Nat.two_pow_pos P)]
  (k_dflt (refine' enter (binds := [(PySem.Str.ofString "self", .ref x), (PySem.Str.ofString "arg", .bytes bs.toArray t)]) ?k1 ?k2 ?k6 ?k7 ?k8 ?k9 ?kB ?_ ?c2 ?c3 ?c4 ?c5; (case k1 => k_asm); (case k2 => exact Top.nolimit (by assumption)); (case k6 => k_is); (case k7 => k_is); (case k8 => first | exact Nat.lt_of_le_of_lt (Nat.le_add_right _ _) (Room.hd (by assumption)) | (have hR9 := Room.hd (by assumption); omega)); (case k9 => first | exact hb9 _ _ _ _ (by k_is) | exact BindsTo.of_eq rfl | exact binds_K (by k_in) rfl (by k_is) rfl rfl rfl); (case c5 => decide); (case kB => exact locs rfl); (case c2 => exact rfl); (case c3 => exact rfl); (case c4 => exact rfl)); intro L' h' F' N'; (try dsimp only); (try k_fold))
  walk_at "mine go"
  (exact ⟨_, _, _, [], rfl, rfl, Fr.keep (by assumption), (fun _ h => nomatch h), _, rfl⟩)
theorem fromB_zeros (U : List UInt8) : ∀ z, BT.fromB (U ++ List.replicate z 0) = BT.fromB U * 256 ^ z
  | 0 => by simp
  | z + 1 => by
    rw [List.replicate_succ', ← List.append_assoc, BT.fromB_snoc, fromB_zeros U z, Nat.pow_succ, Nat.mul_assoc]; rfl
local macro_rules | `(tactic| walk_at "call builtin:str.encode") => `(tactic| k_dflt (((with_reducible show wpAny _ _ (call _ [_, Value.str (PySem.Str.ofString "utf-8") _]) _ _ _); refine RE.call_utf8 ?hb ?hz ?_; (case hb => assumption); (case hz => assumption))))
theorem packt_spec (B : Bas w s.heap) (H : Room A 7) (x : Addr) (W N : Nat) (nm : Value) (y : PySem.Str) (t : Tok) (I : IsInfo s.heap x .t W nm) (hw : 1 ≤ W) (hw2 : W ≤ 400)
    (hs : ∀ c ∈ y.cps.toList, PySem.Str.isSurrogate c = false) (h8 : W % 8 = 0) (hl : 8 * (RE.utf8L y.cps.toList).length ≤ W) (hN : N = BT.fromB (RE.utf8L y.cps.toList) * 2 ^ (W - 8 * (RE.utf8L y.cps.toList).length)) :
    codeAny (model PySem.Challenge.pw_bk5003_01 w) A (.call (.ref 373) ⟨[.ref x, .str y t], []⟩) (Ret s fun v _ => ∃ t, v = .str (RS.tx (BT.bl W N)) t) s := by
  obtain ⟨X, p, loose, mean, mg, mb, T⟩ := B
  obtain ⟨dx, n, es, I, J⟩ := I
  obtain ⟨a1, t1, u1, a2, t2, a3, t3, u3, a4, t4, v4, a5, t5, v5, rfl⟩ := J
  obtain ⟨z, hz⟩ : ∃ z, z = W / 8 - (RE.utf8L y.cps.toList).length := ⟨_, rfl⟩
  have hl2 : (RE.utf8L y.cps.toList).length ≤ 1000 := by omega
  have q1 : ((W : Int) - 8 * (((RE.utf8L y.cps.toList).toArray.size : Nat) : Int)).fdiv 8 = (z : Int) := by
    rw [List.size_toArray, Int.fdiv_eq_ediv_of_nonneg _ (by decide)]; omega
  have q2 : (List.replicate (((W : Int) - 8 * (((RE.utf8L y.cps.toList).toArray.size : Nat) : Int)).fdiv 8).toNat [(0 : UInt8)]).flatten = List.replicate z 0 := by
    rw [q1, Int.toNat_natCast, List.flatten_replicate_singleton]
  have q3 : (RE.utf8L y.cps.toList).toArray ++ (List.replicate z (0 : UInt8)).toArray = ((RE.utf8L y.cps.toList) ++ List.replicate z 0).toArray := by simp
  have q4 : ((RE.utf8L y.cps.toList) ++ List.replicate z 0).length = W / 8 := by rw [List.length_append, List.length_replicate]; omega
  have q5 : ((RE.utf8L y.cps.toList) ++ List.replicate z 0).length ≤ 100 := by omega
  have q6 : W ≤ 8 * ((RE.utf8L y.cps.toList) ++ List.replicate z 0).length := by omega
  have q7 : BT.fromB ((RE.utf8L y.cps.toList) ++ List.replicate z 0) / 2 ^ (8 * ((RE.utf8L y.cps.toList) ++ List.replicate z 0).length - W) = N := by
    rw [q4, show 8 * (W / 8) - W = 0 by omega, fromB_zeros, hN, BT.pow_256, show 8 * z = W - 8 * (RE.utf8L y.cps.toList).length by omega]; simp
  (k_dflt (refine' enter (binds := [(PySem.Str.ofString "self", .ref x), (PySem.Str.ofString "arg", .str y t)]) ?k1 ?k2 ?k6 ?k7 ?k8 ?k9 ?kB ?_ ?c2 ?c3 ?c4 ?c5; (case k1 => k_asm); (case k2 => exact Top.nolimit (by assumption)); (case k6 => k_is); (case k7 => k_is); (case k8 => first | exact Nat.lt_of_le_of_lt (Nat.le_add_right _ _) (Room.hd (by assumption)) | (have hR9 := Room.hd (by assumption); omega)); (case k9 => first | exact hb9 _ _ _ _ (by k_is) | exact BindsTo.of_eq rfl | exact binds_K (by k_in) rfl (by k_is) rfl rfl rfl); (case c5 => decide); (case kB => exact locs rfl); (case c2 => exact rfl); (case c3 => exact rfl); (case c4 => exact rfl)); intro L' h' F' N'; (try dsimp only); (try k_fold))
  walk_at "mine go"
  refine ⟨_, _, _, [], rfl, rfl, Fr.keep (by assumption), (fun _ h => nomatch h), _, val_str ?_⟩
  rw [← q7]
end
local macro_rules | `(tactic| walk_at "call ref") => `(tactic| k_dflt ((k_here; k_dflt (refine' use_spec0 ?F ?N (packr_spec ?B ?H _ _ _ _ _ ?I ?hw ?hw2 ?hn) ?_; (case F => k_asm); (case N => k_asm); (case B => walk_at "mine bas"); (case H => walk_at "mine room"); (case I => walk_at "mine side"); (case hw => walk_at "mine side"); (case hw2 => walk_at "mine side"); (case hn => walk_at "mine side")); intro v' h' tk' own' F' N' pv'; k_sweep; (obtain ⟨t', e'⟩ := pv'; subst e'); (try dsimp only); (try k_fold))))

local macro_rules | `(tactic| walk_at "call ref") => `(tactic| k_dflt ((k_here; k_dflt (refine' use_spec0 ?F ?N (packt_spec ?B ?H _ _ _ _ _ _ ?I ?hw ?hw2 ?hs ?h8 ?hl ?hN) ?_; (case F => k_asm); (case N => k_asm); (case B => walk_at "mine bas"); (case H => walk_at "mine room"); (case I => walk_at "mine side"); (case hw => walk_at "mine side"); (case hw2 => walk_at "mine side"); (case hs => walk_at "mine side"); (case h8 => walk_at "mine side"); (case hl => walk_at "mine side"); (case hN => walk_at "mine side")); intro v' h' tk' own' F' N' pv'; k_sweep; (obtain ⟨t', e'⟩ := pv'; subst e'); (try dsimp only); (try k_fold))))

-- F6
section
variable {w : World} {A : Around} {s : Shared}
theorem unpacku_spec (B : Bas w s.heap) (H : Room A 5) (x : Addr) (W N : Nat) (t : Tok) (hw : 1 ≤ W) (hw2 : W ≤ 450) (hn : N < 2 ^ W) :
    codeAny (model PySem.Challenge.pw_bk5003_01 w) A (.call (.ref 164) ⟨[.ref x, .str (RS.tx (BT.bl W N)) t], []⟩) (Ret s fun v _ => ∃ t, v = .int (N : Int) t) s := by
  obtain ⟨X, p, loose, mean, mg, mb, T⟩ := B
  (k_dflt (refine' enter (binds := [(PySem.Str.ofString "self", .ref x), (PySem.Str.ofString "bits", .str (RS.tx (BT.bl W N)) t)]) ?k1 ?k2 ?k6 ?k7 ?k8 ?k9 ?kB ?_ ?c2 ?c3 ?c4 ?c5; (case k1 => k_asm); (case k2 => exact Top.nolimit (by assumption)); (case k6 => k_is); (case k7 => k_is); (case k8 => first | exact Nat.lt_of_le_of_lt (Nat.le_add_right _ _) (Room.hd (by assumption)) | (have hR9 := Room.hd (by assumption); omega)); (case k9 => first | exact hb9 _ _ _ _ (by k_is) | exact BindsTo.of_eq rfl | exact binds_K (by k_in) rfl (by k_is) rfl rfl rfl); (case c5 => decide); (case kB => exact locs rfl); (case c2 => exact rfl); (case c3 => exact rfl); (case c4 => exact rfl)); intro L' h' F' N'; (try dsimp only); (try k_fold))
  walk_at "mine go"
  (exact ⟨_, _, _, [], rfl, rfl, Fr.keep (by assumption), (fun _ h => nomatch h), _, rfl⟩)
theorem unpacks_spec (B : Bas w s.heap) (H : Room A 5) (x : Addr) (W N : Nat) (t : Tok) (hw : 1 ≤ W) (hw2 : W ≤ 450) (hn : N < 2 ^ W) :
    codeAny (model PySem.Challenge.pw_bk5003_01 w) A (.call (.ref 129) ⟨[.ref x, .str (RS.tx (BT.bl W N)) t], []⟩) (Ret s fun v _ => ∃ t, v = .int (toS W N) t) s := by
  obtain ⟨X, p, loose, mean, mg, mb, T⟩ := B
  have q := item_head W N hw hn
  by_cases hc : N < 2 ^ (W - 1)
  · rw [if_pos hc] at q
    (k_dflt (refine' enter (binds := [(PySem.Str.ofString "self", .ref x), (PySem.Str.ofString "bits", .str (RS.tx (BT.bl W N)) t)]) ?k1 ?k2 ?k6 ?k7 ?k8 ?k9 ?kB ?_ ?c2 ?c3 ?c4 ?c5; (case k1 => k_asm); (case k2 => exact Top.nolimit (by assumption)); (case k6 => k_is); (case k7 => k_is); (case k8 => first | exact Nat.lt_of_le_of_lt (Nat.le_add_right _ _) (Room.hd (by assumption)) | (have hR9 := Room.hd (by assumption); omega)); (case k9 => first | exact hb9 _ _ _ _ (by k_is) | exact BindsTo.of_eq rfl | exact binds_K (by k_in) rfl (by k_is) rfl rfl rfl); (case c5 => decide); (case kB => exact locs rfl); (case c2 => exact rfl); (case c3 => exact rfl); (case c4 => exact rfl)); intro L' h' F' N'; (try dsimp only); (try k_fold))
    walk_at "mine go"
    refine ⟨_, _, _, [], rfl, rfl, Fr.keep (by assumption), (fun _ h => nomatch h), _, val_int ?_⟩
    exact (if_pos hc).symm
  · rw [if_neg hc] at q
    (k_dflt (refine' enter (binds := [(PySem.Str.ofString "self", .ref x), (PySem.Str.ofString "bits", .str (RS.tx (BT.bl W N)) t)]) ?k1 ?k2 ?k6 ?k7 ?k8 ?k9 ?kB ?_ ?c2 ?c3 ?c4 ?c5; (case k1 => k_asm); (case k2 => exact Top.nolimit (by assumption)); (case k6 => k_is); (case k7 => k_is); (case k8 => first | exact Nat.lt_of_le_of_lt (Nat.le_add_right _ _) (Room.hd (by assumption)) | (have hR9 := Room.hd (by assumption); omega)); (case k9 => first | exact hb9 _ _ _ _ (by k_is) | exact BindsTo.of_eq rfl | exact binds_K (by k_in) rfl (by k_is) rfl rfl rfl); (case c5 => decide); (case kB => exact locs rfl); (case c2 => exact rfl); (case c3 => exact rfl); (case c4 => exact rfl)); intro L' h' F' N'; (try dsimp only); (try k_fold))
    walk_at "mine go"
    refine ⟨_, _, _, [], rfl, rfl, Fr.keep (by assumption), (fun _ h => nomatch h), _, val_int ?_⟩
    unfold toS
    rw [if_neg hc, Int.one_mul]; rfl
local macro_rules | `(tactic| walk_at "call ref") => `(tactic| k_dflt ((k_here; k_dflt (refine' use_meth ?F ?N ?q (unpacku_spec ?B ?H _ _ _ _ ?hw ?hw2 ?hn) ?_; (case F => k_asm); (case N => k_asm); (case q => k_mem); (case B => walk_at "mine bas"); (case H => walk_at "mine room"); (case hw => walk_at "mine side"); (case hw2 => walk_at "mine side"); (case hn => walk_at "mine side")); intro v' h' tk' own' F' N' pv'; k_sweep; (obtain ⟨t', e'⟩ := pv'; subst e'); (try dsimp only); (try k_fold))))

theorem unpackb_spec (B : Bas w s.heap) (H : Room A 7) (x : Addr) (W N : Nat) (nm : Value) (t : Tok) (I : IsInfo s.heap x .b W nm) (hw : 1 ≤ W) (hw2 : W ≤ 450) (hn : N < 2 ^ W) :
    codeAny (model PySem.Challenge.pw_bk5003_01 w) A (.call (.ref 193) ⟨[.ref x, .str (RS.tx (BT.bl W N)) t], []⟩) (Ret s fun v _ => v = .bool (N != 0)) s := by
  obtain ⟨X, p, loose, mean, mg, mb, T⟩ := B
  obtain ⟨dx, n, es, I, J⟩ := I
  obtain ⟨a1, t1, u1, a2, t2, a3, t3, u3, a4, t4, u4, rfl⟩ := J
  (k_dflt (refine' enterS (binds := [(PySem.Str.ofString "self", .ref x), (PySem.Str.ofString "bits", .str (RS.tx (BT.bl W N)) t)]) ?k1 ?k2 ?kp ?kq ?kr ?k6 ?k7 ?k8 ?k9 ?kB ?_ ?c2 ?c3 ?c4 ?c5; (case k1 => k_asm); (case k2 => exact Top.nolimit (by assumption)); (case kp => first | assumption | exact fun _ _ e => e); (case kq => first | assumption | exact Nat.le_refl _); (case kr => first | assumption | exact (fun _ h => nomatch h : ∀ p ∈ ([] : List (Addr × Obj)), _)); (case k6 => k_is); (case k7 => k_is); (case k8 => first | exact Nat.lt_of_le_of_lt (Nat.le_add_right _ _) (Room.hd (by assumption)) | (have hR9 := Room.hd (by assumption); omega)); (case k9 => first | exact hb9 _ _ _ _ (by k_is) | exact BindsTo.of_eq rfl | exact binds_K (by k_in) rfl (by k_is) rfl rfl rfl | exact binds_K (Frag.In.keeps (by k_asm) (by assumption)) rfl (by k_is) rfl rfl rfl); (case c5 => decide); (case kB => exact locs rfl); (case c2 => exact rfl); (case c3 => exact rfl); (case c4 => exact rfl)); intro L' h' F' N' l1; (try k_lt l1); (try dsimp only); (try k_fold))
  refine ks_wpAt_execs_cons (ks_wpAt_Return_some (at_call1 (T := "bool") ?hn (ks_wpAt_MethodCall ?_)))
  case hn =>
    walk_at "mine go"
    all_goals exact ⟨rfl, rfl⟩
  walk_at "mine go"
  (exact ⟨_, _, _, [], rfl, rfl, Fr.keep (by assumption), (fun _ h => nomatch h), val_bool (nz N)⟩)
theorem unpackr_spec (B : Bas w s.heap) (H : Room A 5) (x : Addr) (W n : Nat) (nm : Value) (u : Tok) (I : IsInfo s.heap x .r W nm) (hw : 1 ≤ W) (hw2 : W ≤ 450) (hn : n < 2 ^ W) :
    codeAny (model PySem.Challenge.pw_bk5003_01 w) A (.call (.ref 295) ⟨[.ref x, .str (RS.tx (BT.bl W n)) u], []⟩) (Ret s fun v _ => ∃ t, v = .bytes (BT.toB ((W + 7) / 8) (n * 2 ^ (8 * ((W + 7) / 8) - W))).toArray t) s := by
  obtain ⟨X, p, loose, mean, mg, mb, T⟩ := B
  obtain ⟨dx, n', es, I, J⟩ := I
  obtain ⟨a1, t1, u1, a2, t2, a3, t3, u3, rfl⟩ := J
  obtain ⟨k, hk⟩ : ∃ k, k = (W + 7) / 8 := ⟨_, rfl⟩
  obtain ⟨P, hP⟩ : ∃ P, P = 8 * k - W := ⟨_, rfl⟩
  rw [← hk, ← hP]
  have hWP : W + P = 8 * k := by omega
  have hN : n * 2 ^ P < 256 ^ k := by rw [BT.pow_256, ← hWP, Nat.pow_add]; exact (Nat.mul_lt_mul_right (Nat.two_pow_pos P)).mpr hn
  have hF : 128 * 256 ^ k + n * 2 ^ P < 2 ^ (8 + (W + P)) := by rw [Nat.pow_add, hWP, ← BT.pow_256]; omega
  have ef : ((W : Nat) : Int).fmod 8 = ((W % 8 : Nat) : Int) := by rw [Int.fmod_eq_emod_of_nonneg _ (by decide)]; rfl
  have e1 : Txt.mul (PySem.Str.ofString "0") (8 - ((W : Nat) : Int).fmod 8) = RS.tx (List.replicate (8 - W % 8) 48) := by
    rw [ef, show (8 : Int) - ((W % 8 : Nat) : Int) = ((8 - W % 8 : Nat) : Int) by omega]
    exact RS.tx_mul1 48 _
  have e2 : W % 8 ≠ 0 → RS.tx (BT.bl W n) ++ RS.tx (List.replicate (8 - W % 8) 48) = RS.tx (BT.bl (W + P) (n * 2 ^ P)) := by
    intro h
    rw [RS.tx_app, ← BT.bl_zero, show 8 - W % 8 = P by omega, BT.bl_app' (Nat.two_pow_pos P)]; rfl
  have e3 : PySem.Str.ofString "10000000" ++ RS.tx (BT.bl (W + P) (n * 2 ^ P)) = RS.tx (BT.bl (8 + (W + P)) (128 * 256 ^ k + n * 2 ^ P)) := by
    have : PySem.Str.ofString "10000000" = RS.tx (BT.bl 8 128) := rfl
    rw [this, RS.tx_app, BT.bl_app' (by rw [hWP, ← BT.pow_256]; exact hN), hWP, ← BT.pow_256]
  have e4 := RS.hex_bl k (n * 2 ^ P) hN
  have e5 : Txt.slice (RS.tx (48 :: 120 :: 56 :: 48 :: RB.hexL (BT.toB k (n * 2 ^ P)))) (some 4) none = RS.tx (RB.hexL (BT.toB k (n * 2 ^ P))) :=
    RS.tx_from _ 4 (by simp only [List.length_cons]; omega)
  have e6 := RS.rstrip_no (RB.hexL (BT.toB k (n * 2 ^ P))) (PySem.Str.ofString "L") (hexL_noL _)
  have hl : (BT.toB k (n * 2 ^ P)).length ≤ 450 := by rw [BT.toB_length]; omega
  (k_dflt (refine' enter (binds := [(PySem.Str.ofString "self", .ref x), (PySem.Str.ofString "bits", .str (RS.tx (BT.bl W n)) u)]) ?k1 ?k2 ?k6 ?k7 ?k8 ?k9 ?kB ?_ ?c2 ?c3 ?c4 ?c5; (case k1 => k_asm); (case k2 => exact Top.nolimit (by assumption)); (case k6 => k_is); (case k7 => k_is); (case k8 => first | exact Nat.lt_of_le_of_lt (Nat.le_add_right _ _) (Room.hd (by assumption)) | (have hR9 := Room.hd (by assumption); omega)); (case k9 => first | exact hb9 _ _ _ _ (by k_is) | exact BindsTo.of_eq rfl | exact binds_K (by k_in) rfl (by k_is) rfl rfl rfl); (case c5 => decide); (case kB => exact locs rfl); (case c2 => exact rfl); (case c3 => exact rfl); (case c4 => exact rfl)); intro L' h' F' N'; (try dsimp only); (try k_fold))
  rcases Nat.eq_zero_or_pos (W % 8) with h0 | h0
  · have e0 : ((W : Nat) : Int).fmod 8 = 0 := by rw [ef, h0]; rfl
    have hP0 : P = 0 := by omega
    have e3' : PySem.Str.ofString "10000000" ++ RS.tx (BT.bl W n) = RS.tx (BT.bl (8 + (W + P)) (128 * 256 ^ k + n * 2 ^ P)) := by
      rw [← e3, hP0]; simp
    walk_at "mine go"
    (exact ⟨_, _, _, [], rfl, rfl, Fr.keep (by assumption), (fun _ h => nomatch h), _, rfl⟩)
  · have e2' := e2 (by omega)
    walk_at "mine go"
    (exact ⟨_, _, _, [], rfl, rfl, Fr.keep (by assumption), (fun _ h => nomatch h), _, rfl⟩)
end
-- F9
section
variable {w : World} {A : Around} {s : Shared}
theorem pack_value_spec (B : Bas w s.heap) (H : Room A 9) (its : List Item) (c x : Addr) (k : Kd) (W N V M : Nat) (nm v : Value) (t : Tok) (C : IsCF s.heap c its) (I : IsInfo s.heap x k W nm) (hw : 1 ≤ W) (hw2 : W ≤ 100) (hn : N < 2 ^ W) (hv : Val k W N v) (hV : V ≤ 300) :
    codeAny (model PySem.Challenge.pw_bk5003_01 w) A (.call (.ref 424) ⟨[.ref c, .ref x, v, .str (RS.tx (BT.bl V M)) t], []⟩) (Ret s fun v _ => ∃ t, v = .str (RS.tx (BT.bl (V + W) (M * 2 ^ W + N))) t) s := by
  obtain ⟨X, p, loose, mean, mg, mb, T⟩ := B
  obtain ⟨dc, nc, li, xs, b1, y1, b2, y2, z2, b3, y3, z3, b4, y4, z4, Ic, Lc, Xc⟩ := C
  have hw3 : W ≤ 450 := by omega
  have hw4 : W ≤ 400 := by omega
  have e1 : RS.tx (BT.bl V M) ++ RS.tx (BT.bl W N) = RS.tx (BT.bl (V + W) (M * 2 ^ W + N)) := by
    rw [RS.tx_app, BT.bl_app' hn]
  have I0 := I
  obtain ⟨dx, n, es, I, J⟩ := I
  cases k with
  | u =>
    obtain ⟨t0, rfl⟩ := hv
    obtain ⟨a1, t1, u1, a2, t2, a3, t3, u3, a4, t4, u4, rfl⟩ := J
    (k_dflt (refine' enter (binds := [(PySem.Str.ofString "self", .ref c), (PySem.Str.ofString "info", .ref x), (PySem.Str.ofString "value", .int (N : Int) t0), (PySem.Str.ofString "bits", .str (RS.tx (BT.bl V M)) t)]) ?k1 ?k2 ?k6 ?k7 ?k8 ?k9 ?kB ?_ ?c2 ?c3 ?c4 ?c5; (case k1 => k_asm); (case k2 => exact Top.nolimit (by assumption)); (case k6 => k_is); (case k7 => k_is); (case k8 => first | exact Nat.lt_of_le_of_lt (Nat.le_add_right _ _) (Room.hd (by assumption)) | (have hR9 := Room.hd (by assumption); omega)); (case k9 => first | exact hb9 _ _ _ _ (by k_is) | exact BindsTo.of_eq rfl | exact binds_K (by k_in) rfl (by k_is) rfl rfl rfl); (case c5 => decide); (case kB => exact locs rfl); (case c2 => exact rfl); (case c3 => exact rfl); (case c4 => exact rfl)); intro L' h' F' N'; (try dsimp only); (try k_fold))
    walk_at "mine go"
    (exact ⟨_, _, _, [], rfl, rfl, Fr.keep (by assumption), (fun _ h => nomatch h), _, rfl⟩)
  | s =>
    obtain ⟨t0, rfl⟩ := hv
    obtain ⟨a1, t1, u1, a2, t2, a3, t3, u3, a4, t4, u4, a5, t5, u5, rfl⟩ := J
    (k_dflt (refine' enter (binds := [(PySem.Str.ofString "self", .ref c), (PySem.Str.ofString "info", .ref x), (PySem.Str.ofString "value", .int (toS W N) t0), (PySem.Str.ofString "bits", .str (RS.tx (BT.bl V M)) t)]) ?k1 ?k2 ?k6 ?k7 ?k8 ?k9 ?kB ?_ ?c2 ?c3 ?c4 ?c5; (case k1 => k_asm); (case k2 => exact Top.nolimit (by assumption)); (case k6 => k_is); (case k7 => k_is); (case k8 => first | exact Nat.lt_of_le_of_lt (Nat.le_add_right _ _) (Room.hd (by assumption)) | (have hR9 := Room.hd (by assumption); omega)); (case k9 => first | exact hb9 _ _ _ _ (by k_is) | exact BindsTo.of_eq rfl | exact binds_K (by k_in) rfl (by k_is) rfl rfl rfl); (case c5 => decide); (case kB => exact locs rfl); (case c2 => exact rfl); (case c3 => exact rfl); (case c4 => exact rfl)); intro L' h' F' N'; (try dsimp only); (try k_fold))
    walk_at "mine go"
    (exact ⟨_, _, _, [], rfl, rfl, Fr.keep (by assumption), (fun _ h => nomatch h), _, rfl⟩)
  | b =>
    obtain ⟨rfl, hn1⟩ := hv
    obtain ⟨a1, t1, u1, a2, t2, a3, t3, u3, a4, t4, u4, rfl⟩ := J
    (k_dflt (refine' enter (binds := [(PySem.Str.ofString "self", .ref c), (PySem.Str.ofString "info", .ref x), (PySem.Str.ofString "value", .bool (N == 1)), (PySem.Str.ofString "bits", .str (RS.tx (BT.bl V M)) t)]) ?k1 ?k2 ?k6 ?k7 ?k8 ?k9 ?kB ?_ ?c2 ?c3 ?c4 ?c5; (case k1 => k_asm); (case k2 => exact Top.nolimit (by assumption)); (case k6 => k_is); (case k7 => k_is); (case k8 => first | exact Nat.lt_of_le_of_lt (Nat.le_add_right _ _) (Room.hd (by assumption)) | (have hR9 := Room.hd (by assumption); omega)); (case k9 => first | exact hb9 _ _ _ _ (by k_is) | exact BindsTo.of_eq rfl | exact binds_K (by k_in) rfl (by k_is) rfl rfl rfl); (case c5 => decide); (case kB => exact locs rfl); (case c2 => exact rfl); (case c3 => exact rfl); (case c4 => exact rfl)); intro L' h' F' N'; (try dsimp only); (try k_fold))
    walk_at "mine go"
    (exact ⟨_, _, _, [], rfl, rfl, Fr.keep (by assumption), (fun _ h => nomatch h), _, rfl⟩)
  | r =>
    obtain ⟨t0, rfl⟩ := hv
    obtain ⟨a1, t1, u1, a2, t2, a3, t3, u3, rfl⟩ := J
    (k_dflt (refine' enter (binds := [(PySem.Str.ofString "self", .ref c), (PySem.Str.ofString "info", .ref x), (PySem.Str.ofString "value", .bytes (BT.toB ((W + 7) / 8) (N * 2 ^ (8 * ((W + 7) / 8) - W))).toArray t0), (PySem.Str.ofString "bits", .str (RS.tx (BT.bl V M)) t)]) ?k1 ?k2 ?k6 ?k7 ?k8 ?k9 ?kB ?_ ?c2 ?c3 ?c4 ?c5; (case k1 => k_asm); (case k2 => exact Top.nolimit (by assumption)); (case k6 => k_is); (case k7 => k_is); (case k8 => first | exact Nat.lt_of_le_of_lt (Nat.le_add_right _ _) (Room.hd (by assumption)) | (have hR9 := Room.hd (by assumption); omega)); (case k9 => first | exact hb9 _ _ _ _ (by k_is) | exact BindsTo.of_eq rfl | exact binds_K (by k_in) rfl (by k_is) rfl rfl rfl); (case c5 => decide); (case kB => exact locs rfl); (case c2 => exact rfl); (case c3 => exact rfl); (case c4 => exact rfl)); intro L' h' F' N'; (try dsimp only); (try k_fold))
    walk_at "mine go"
    (exact ⟨_, _, _, [], rfl, rfl, Fr.keep (by assumption), (fun _ h => nomatch h), _, rfl⟩)
  | t =>
    obtain ⟨y, t0, rfl, hs, h8, hl, hN⟩ := hv
    obtain ⟨a1, t1, u1, a2, t2, a3, t3, u3, a4, t4, v4, a5, t5, v5, rfl⟩ := J
    (k_dflt (refine' enter (binds := [(PySem.Str.ofString "self", .ref c), (PySem.Str.ofString "info", .ref x), (PySem.Str.ofString "value", .str y t0), (PySem.Str.ofString "bits", .str (RS.tx (BT.bl V M)) t)]) ?k1 ?k2 ?k6 ?k7 ?k8 ?k9 ?kB ?_ ?c2 ?c3 ?c4 ?c5; (case k1 => k_asm); (case k2 => exact Top.nolimit (by assumption)); (case k6 => k_is); (case k7 => k_is); (case k8 => first | exact Nat.lt_of_le_of_lt (Nat.le_add_right _ _) (Room.hd (by assumption)) | (have hR9 := Room.hd (by assumption); omega)); (case k9 => first | exact hb9 _ _ _ _ (by k_is) | exact BindsTo.of_eq rfl | exact binds_K (by k_in) rfl (by k_is) rfl rfl rfl); (case c5 => decide); (case kB => exact locs rfl); (case c2 => exact rfl); (case c3 => exact rfl); (case c4 => exact rfl)); intro L' h' F' N'; (try dsimp only); (try k_fold))
    walk_at "mine go"
    (exact ⟨_, _, _, [], rfl, rfl, Fr.keep (by assumption), (fun _ h => nomatch h), _, rfl⟩)
  | p => exact hv.elim
  | q => exact hv.elim
end
-- F10
section
variable {w : World} {A : Around} {s : Shared}
local macro_rules | `(tactic| walk_at "call ref") => `(tactic| k_dflt ((k_here; k_dflt (refine' use_spec0 ?F ?N (pack_value_spec ?B ?H _ _ _ _ _ _ _ _ _ _ _ ?C ?I ?hw ?hw2 ?hn ?hv ?hV) ?_; (case F => k_asm); (case N => k_asm); (case B => walk_at "mine bas"); (case H => walk_at "mine room"); (case C => walk_at "mine side"); (case I => walk_at "mine side"); (case hw => walk_at "mine side"); (case hw2 => walk_at "mine side"); (case hn => walk_at "mine side"); (case hv => walk_at "mine side"); (case hV => walk_at "mine side")); intro v' h' tk' own' F' N' pv'; k_sweep; (obtain ⟨t', e'⟩ := pv'; subst e'); (try dsimp only); (try k_fold))))

local macro_rules | `(tactic| walk_at "mine side") => `(tactic| exact IsCF.ext (by assumption) (Fr.keep (by k_asm)))
theorem catN_lt : ∀ (its : List Item) (Ns : List Nat) (M K : Nat), (∀ (j : Nat) (it : Item) (N : Nat), its[j]? = some it → Ns[j]? = some N → N < 2 ^ it.W) → M < 2 ^ K → its.length = Ns.length → catN its Ns M < 2 ^ (K + totW its)
  | [], [], M, K, _, h, _ => by simpa [catN, totW] using h
  | it :: r, N :: Ns, M, K, hj, h, hl => by
    have h0 := hj 0 it N rfl rfl
    have := catN_lt r Ns (M * 2 ^ it.W + N) (K + it.W) (fun j a b p q => hj (j + 1) a b p q) (by
      rw [Nat.pow_add]
      calc M * 2 ^ it.W + N < M * 2 ^ it.W + 2 ^ it.W := by omega
        _ = (M + 1) * 2 ^ it.W := by rw [Nat.succ_mul]
        _ ≤ 2 ^ K * 2 ^ it.W := Nat.mul_le_mul_right _ h) (by simpa using hl)
    show catN r Ns _ < _
    have e : totW (it :: r) = it.W + totW r := by simp [totW]
    rw [e, ← Nat.add_assoc]; exact this
theorem Vals.lt {its : List Item} {Ns : List Nat} {vs : List Value} (V : Vals its Ns vs) : catN its Ns 0 < 2 ^ totW its := by
  have := catN_lt its Ns 0 0 (fun j it N a b => (V.2.2 j it N a b).1) (by decide) V.1
  rwa [Nat.zero_add] at this
theorem pack_any_spec (B : Bas w s.heap) (H : Room A 12) (its : List Item) (c tv : Addr) (Ns : List Nat) (vs : List Value) (C : IsCF s.heap c its) (V : Vals its Ns vs) (Tv : IsTup s.heap tv vs.toArray) (hT : totW its ≤ 300) (hT1 : 1 ≤ totW its) (hL : its.length ≤ 100) :
    codeAny (model PySem.Challenge.pw_bk5003_01 w) A (.call (.ref 431) ⟨[.ref c, .ref tv], []⟩) (Ret s fun v _ => ∃ t, v = .bytes (BT.toB ((totW its + 7) / 8) (catN its Ns 0 * 2 ^ (8 * ((totW its + 7) / 8) - totW its))).toArray t) s := by
  obtain ⟨M, hM⟩ : ∃ M, M = catN its Ns 0 := ⟨_, rfl⟩
  obtain ⟨W, hW⟩ : ∃ W, W = totW its := ⟨_, rfl⟩
  rw [← hM, ← hW]
  have hb : M < 2 ^ W := by rw [hM, hW]; exact Vals.lt V
  have hw : 1 ≤ W := by omega
  have ef : ((W : Nat) : Int).fmod 8 = ((W % 8 : Nat) : Int) := by rw [Int.fmod_eq_emod_of_nonneg _ (by decide)]; rfl
  have C0 := C
  obtain ⟨dc, nc, li, xs, b1, y1, b2, y2, z2, b3, y3, z3, b4, y4, z4, Ic, Lc, Xc⟩ := C
  obtain ⟨X, p, loose, mean, mg, mb, T⟩ := B
  (k_dflt (refine' enter (binds := [(PySem.Str.ofString "self", .ref c), (PySem.Str.ofString "values", .ref tv)]) ?k1 ?k2 ?k6 ?k7 ?k8 ?k9 ?kB ?_ ?c2 ?c3 ?c4 ?c5; (case k1 => k_asm); (case k2 => exact Top.nolimit (by assumption)); (case k6 => k_is); (case k7 => k_is); (case k8 => first | exact Nat.lt_of_le_of_lt (Nat.le_add_right _ _) (Room.hd (by assumption)) | (have hR9 := Room.hd (by assumption); omega)); (case k9 => first | exact hb9 _ _ _ _ (by k_is) | exact BindsTo.of_eq rfl | exact binds_K (by k_in) rfl (by k_is) rfl rfl rfl); (case c5 => decide); (case kB => exact locs rfl); (case c2 => exact rfl); (case c3 => exact rfl); (case c4 => exact rfl)); intro L' h' F' N'; (try dsimp only); (try k_fold))
  walk_at "mine go"
  refine for_stmt ?_ (fun _ => rfl)
  walk_at "mine go"
  (rename Fr _ _ _ _ => kF); (rename News _ _ _ _ => kN)
  have Lx : li ≠ L' := by
    obtain ⟨o, ho, _⟩ := Lc
    intro e
    have hlt := Heap.lt_size ho
    have := kF.above
    rw [e] at hlt
    exact Nat.lt_irrefl _ (Nat.lt_of_lt_of_le hlt this)
  refine for_list (L := L') rfl (fun I k m news => news = [] ∧ MR m (PySem.Str.ofString "self") c ∧ MR m (PySem.Str.ofString "values") tv ∧ ∃ t, m (PySem.Str.ofString "bits") = some (.str (RS.tx (BT.bl (totW (its.take k)) (catN (its.take k) (Ns.take k) 0))) t)) H.hh kF kN
    (let ⟨o, ho, r⟩ := Lc; ⟨o, kF.keep _ _ ho, r⟩) (Ne.symm Lx) (.inl (let ⟨o, ho, _⟩ := Lc; ⟨o, ho⟩)) (fun I _ => ⟨rfl, rfl, rfl, _, rfl⟩) ?_ ?_
  · clear kF kN
    rintro I j v m news h tk oI hv ⟨rfl, m1, m2, t0, m3⟩ kF kN hI
    (try k_fold)
    obtain ⟨x, hx, rfl⟩ : ∃ x, xs[j]? = some x ∧ v = .ref x := by
      rw [List.getElem?_map] at hv
      cases e : xs[j]? with
      | none => rw [e] at hv; cases hv
      | some x => rw [e] at hv; cases hv; exact ⟨x, rfl, rfl⟩
    have hj : j < its.length := by rw [← Xc.1]; exact (List.getElem?_eq_some_iff.mp hx).1
    obtain ⟨it, hit⟩ : ∃ it, its[j]? = some it := ⟨_, List.getElem?_eq_getElem hj⟩
    obtain ⟨N, hN⟩ : ∃ N, Ns[j]? = some N := ⟨_, List.getElem?_eq_getElem (by rw [← V.1]; exact hj)⟩
    obtain ⟨w1, w2, nm, Ix, hnm⟩ := Xc.2 j it x hit hx
    obtain ⟨n1, n2, n3, n4⟩ := V.2.2 j it N hit hN
    have hV : totW (its.take j) ≤ 300 := Nat.le_trans (totW_take_le its j) hT
    have hw3 : it.W ≤ 450 := by omega
    have hcj : cnt its j ≤ j := by
      unfold cnt
      exact Nat.le_trans (List.length_filter_le _ _) (by rw [List.length_take]; omega)
    have e1 := totW_take hit
    have e2 := catN_take V.1 hit hN
    have e3 : RS.tx (BT.bl (totW (its.take j)) (catN (its.take j) (Ns.take j) 0)) ++ RS.tx (BT.bl it.W N) = RS.tx (BT.bl (totW (its.take j) + it.W) (catN (its.take j) (Ns.take j) 0 * 2 ^ it.W + N)) := by
      rw [RS.tx_app, BT.bl_app' n1]
    have Ix0 := Ix
    obtain ⟨dx, nx, es, Ix, Jx⟩ := Ix
    obtain ⟨k, W⟩ := it
    dsimp only at *
    cases k with
    | u =>
      obtain ⟨t1, rfl⟩ := hnm rfl
      obtain ⟨v, hv1, hv2⟩ := n4 rfl
      have ix : vs[((cnt its j : Nat) : Int).toNat]? = some v := by rw [Int.toNat_natCast]; exact hv1
      obtain ⟨a1, t1, u1, a2, t2, a3, t3, u3, a4, t4, u4, rfl⟩ := Jx
      walk_at "mine go"
      (rename Fr _ _ _ _ => kF); (rename News _ _ _ _ => kN)
      refine Turn.mk' kF kN ?_
      simp only [e1, e2]
      exact ⟨[], rfl, (fun _ h => nomatch h), rfl, by walk_at "mine look", by walk_at "mine look", _, by walk_at "mine look"⟩
    | s =>
      obtain ⟨t1, rfl⟩ := hnm rfl
      obtain ⟨v, hv1, hv2⟩ := n4 rfl
      have ix : vs[((cnt its j : Nat) : Int).toNat]? = some v := by rw [Int.toNat_natCast]; exact hv1
      obtain ⟨a1, t1, u1, a2, t2, a3, t3, u3, a4, t4, u4, a5, t5, u5, rfl⟩ := Jx
      walk_at "mine go"
      (rename Fr _ _ _ _ => kF); (rename News _ _ _ _ => kN)
      refine Turn.mk' kF kN ?_
      simp only [e1, e2]
      exact ⟨[], rfl, (fun _ h => nomatch h), rfl, by walk_at "mine look", by walk_at "mine look", _, by walk_at "mine look"⟩
    | b =>
      obtain ⟨t1, rfl⟩ := hnm rfl
      obtain ⟨v, hv1, hv2⟩ := n4 rfl
      have ix : vs[((cnt its j : Nat) : Int).toNat]? = some v := by rw [Int.toNat_natCast]; exact hv1
      obtain ⟨a1, t1, u1, a2, t2, a3, t3, u3, a4, t4, u4, rfl⟩ := Jx
      walk_at "mine go"
      (rename Fr _ _ _ _ => kF); (rename News _ _ _ _ => kN)
      refine Turn.mk' kF kN ?_
      simp only [e1, e2]
      exact ⟨[], rfl, (fun _ h => nomatch h), rfl, by walk_at "mine look", by walk_at "mine look", _, by walk_at "mine look"⟩
    | r =>
      obtain ⟨t1, rfl⟩ := hnm rfl
      obtain ⟨v, hv1, hv2⟩ := n4 rfl
      have ix : vs[((cnt its j : Nat) : Int).toNat]? = some v := by rw [Int.toNat_natCast]; exact hv1
      obtain ⟨a1, t1, u1, a2, t2, a3, t3, u3, rfl⟩ := Jx
      walk_at "mine go"
      (rename Fr _ _ _ _ => kF); (rename News _ _ _ _ => kN)
      refine Turn.mk' kF kN ?_
      simp only [e1, e2]
      exact ⟨[], rfl, (fun _ h => nomatch h), rfl, by walk_at "mine look", by walk_at "mine look", _, by walk_at "mine look"⟩
    | t =>
      obtain ⟨t1, rfl⟩ := hnm rfl
      obtain ⟨v, hv1, hv2⟩ := n4 rfl
      have ix : vs[((cnt its j : Nat) : Int).toNat]? = some v := by rw [Int.toNat_natCast]; exact hv1
      obtain ⟨a1, t1, u1, a2, t2, a3, t3, u3, a4, t4, v4, a5, t5, v5, rfl⟩ := Jx
      walk_at "mine go"
      (rename Fr _ _ _ _ => kF); (rename News _ _ _ _ => kN)
      refine Turn.mk' kF kN ?_
      simp only [e1, e2]
      exact ⟨[], rfl, (fun _ h => nomatch h), rfl, by walk_at "mine look", by walk_at "mine look", _, by walk_at "mine look"⟩
    | p =>
      have n0 := n2 rfl
      subst n0
      obtain ⟨a1, t1, u1, a2, t2, a3, t3, u3, rfl⟩ := Jx
      walk_at "mine go"
      (rename Fr _ _ _ _ => kF); (rename News _ _ _ _ => kN)
      refine Turn.mk' kF kN ?_
      simp only [e1, e2]
      exact ⟨[], rfl, (fun _ h => nomatch h), rfl, by walk_at "mine look", by walk_at "mine look", _, by walk_at "mine look"⟩
    | q =>
      have n0 := n3 rfl
      subst n0
      obtain ⟨a1, t1, u1, a2, t2, a3, t3, u3, rfl⟩ := Jx
      walk_at "mine go"
      (rename Fr _ _ _ _ => kF); (rename News _ _ _ _ => kN)
      refine Turn.mk' kF kN ?_
      simp only [e1, e2]
      exact ⟨[], rfl, (fun _ h => nomatch h), rfl, by walk_at "mine look", by walk_at "mine look", _, by walk_at "mine look"⟩
  · clear kF kN
    rintro I m news h tk ⟨rfl, m1, m2, t0, m3⟩ kF kN
    (try k_fold)
    have hl : (xs.map Value.ref).length = its.length := by rw [List.length_map]; exact Xc.1
    rw [hl, List.take_length, V.1, List.take_length] at m3
    rw [← hM, ← hW] at m3
    rcases Nat.eq_zero_or_pos (W % 8) with h0 | h0
    · have e0 : ((W : Nat) : Int).fmod 8 = 0 := by rw [ef, h0]; rfl
      walk_at "mine go"
      all_goals first | exact absurd e0 (by assumption) | ((exact ⟨_, _, _, [], rfl, rfl, Fr.keep (by assumption), (fun _ h => nomatch h), _, rfl⟩))
    · obtain ⟨P, hP⟩ : ∃ P, P = 8 - W % 8 := ⟨_, rfl⟩
      have e0 : Txt.mul (PySem.Str.ofString "0") (8 - ((W : Nat) : Int).fmod 8) = RS.tx (BT.bl P 0) := by
        rw [ef, show (8 : Int) - ((W % 8 : Nat) : Int) = (P : Int) by omega, BT.bl_zero]
        exact RS.tx_mul1 48 _
      have z1 : RS.tx (BT.bl W M) ++ RS.tx (BT.bl P 0) = RS.tx (BT.bl (W + P) (M * 2 ^ P)) := by
        rw [RS.tx_app, BT.bl_app' (Nat.two_pow_pos P)]; rfl
      have z2 : M * 2 ^ P < 2 ^ (W + P) := by rw [Nat.pow_add]; exact (Nat.mul_lt_mul_right (Nat.two_pow_pos P)).mpr hb
      have e9 : ¬ ((W : Nat) : Int).fmod 8 = 0 := by rw [ef]; omega
      walk_at "mine go"
      all_goals first | exact absurd (by assumption : ((W : Nat) : Int).fmod 8 = 0) e9 | skip
      refine ⟨_, _, _, [], rfl, rfl, Fr.keep (by assumption), (fun _ h => nomatch h), _, val_bytes ?_⟩
      rw [show (W + P + 7) / 8 = (W + 7) / 8 by omega, show 8 * ((W + 7) / 8) - (W + P) = 0 by omega, show 8 * ((W + 7) / 8) - W = P by omega, Nat.pow_zero, Nat.mul_one]
end
local macro_rules | `(tactic| walk_at "call ref") => `(tactic| k_dflt ((k_here; k_dflt (refine' use_spec0 ?F ?N (pack_any_spec ?B ?H _ _ _ _ _ ?C ?V ?Tv ?hT ?hT1 ?hL) ?_; (case F => k_asm); (case N => k_asm); (case B => walk_at "mine bas"); (case H => walk_at "mine room"); (case C => walk_at "mine side"); (case V => walk_at "mine side"); (case Tv => walk_at "mine side"); (case hT => walk_at "mine side"); (case hT1 => walk_at "mine side"); (case hL => walk_at "mine side")); intro v' h' tk' own' F' N' pv'; k_sweep; (obtain ⟨t', e'⟩ := pv'; subst e'); (try dsimp only); (try k_fold))))

local macro_rules | `(tactic| walk_at "mine side") => `(tactic| exact IsCF.ext (by assumption) (Fr.keep (by k_asm)))
local macro_rules | `(tactic| walk_at "mine side") => `(tactic| exact IsTup.keeps (by assumption) (Fr.keep (by k_asm)))
-- F11
section
variable {w : World} {A : Around} {s : Shared}
theorem Bas.out {h g : Heap} {p : Program} {loose : List PySem.Str} {mean : ExcName → Option Value} {mg mb : PySem.Str → Option Value} (X : (Mine.hd.heap_39 w.params).In h) (T : Top p loose mean mg mb h) (e : Ext h g) : (Mine.hd.heap_39 w.params).In g ∧ Top p loose mean mg mb g := ⟨X.keeps e, T.keeps e⟩
theorem pack_meth_spec (B : Bas w s.heap) (H : Room A 14) (its : List Item) (c : Addr) (Ns : List Nat) (vs : List Value) (C : IsCF s.heap c its) (V : Vals its Ns vs) (hT : totW its ≤ 300) (hT1 : 1 ≤ totW its) (hL : its.length ≤ 100) (h4 : vs.length ≤ 4) :
    codeAny (model PySem.Challenge.pw_bk5003_01 w) A (.call (.ref 483) ⟨.ref c :: vs, []⟩) (Ret s fun v _ => ∃ t, v = .bytes (BT.toB ((totW its + 7) / 8) (catN its Ns 0 * 2 ^ (8 * ((totW its + 7) / 8) - totW its))).toArray t) s := by
  obtain ⟨X, p, loose, mean, mg, mb, T⟩ := B
  (k_dflt (refine' enterV (vs := vs) (binds := fun D' => [(PySem.Str.ofString "self", .ref c), (PySem.Str.ofString "args", .ref D')]) ?k1 ?k2 ?k6 ?k7 ?k8 ?kP ?kG ?kB ?_ ?c2 ?c3 ?c4 ?c5; (case k1 => k_asm); (case k2 => exact Top.nolimit (by assumption)); (case k6 => k_is); (case k7 => k_is); (case k8 => first | exact Nat.lt_of_le_of_lt (Nat.le_add_right _ _) (Room.hd (by assumption)) | (have hR9 := Room.hd (by assumption); omega)); (case kG => exact fun _ => rfl); (case kP => first | exact rfl | (rcases vs with _ | ⟨_, _ | ⟨_, _ | ⟨_, _ | ⟨_, _ | ⟨_, _⟩⟩⟩⟩⟩ <;> first | exact rfl | (exfalso; simp only [List.length_cons] at *; omega))); (case kB => exact fun _ => locs rfl); (case c5 => decide); (case c2 => exact rfl); (case c3 => exact rfl); (case c4 => exact rfl)); intro D' g' L' h' kk' Tv' F' N'; (try dsimp only); (try k_fold))
  replace C := C.ext kk'
  obtain ⟨X, T⟩ := Bas.out X T kk'
  have C0 := C
  obtain ⟨dc, nc, li, xs, b1, y1, b2, y2, z2, b3, y3, z3, b4, y4, z4, Ic, Lc, Xc⟩ := C
  have hc := V.2.1
  walk_at "mine go"
  exact ⟨_, _, _, [], rfl, rfl, kk'.trans (Fr.keep (by assumption)), (fun _ h => nomatch h), _, rfl⟩
end
-- F15
section
/-- the compiled format among what has been made -/
def CFIn (own : List (Addr × Obj)) (c : Addr) (its : List Item) : Prop := ∃ dx o, (c, instObj 507 dx) ∈ own ∧ (dx, o) ∈ own ∧ CfFull its o own
theorem CFIn.is {own : List (Addr × Obj)} {c : Addr} {its : List Item} {h : Heap} (I : CFIn own c its) (e : ∀ p ∈ own, h.get? p.1 = some p.2) : IsCF h c its := by
  obtain ⟨dx, o, h1, h2, li, a1, t1, a2, t2, u2, a3, t3, u3, a4, t4, u4, rfl, xs, nl, hl, hx, hi⟩ := I
  refine ⟨dx, 4, li, xs, a1, t1, a2, t2, u2, a3, t3, u3, a4, t4, u4, ⟨e _ h1, rfl, rfl, e _ h2⟩, ⟨_, e _ hl, rfl, _, rfl⟩, hx, fun j it x a b => ?_⟩
  obtain ⟨⟨q1, q2⟩, nm, i1, i2⟩ := hi j it x a b
  exact ⟨q1, q2, nm, i1.is e, i2⟩
theorem InfoIn.sub {own own' : List (Addr × Obj)} {x : Addr} {k : Kd} {W : Nat} {nm : Value} (I : InfoIn own x k W nm) (h : ∀ p ∈ own, p ∈ own') : InfoIn own' x k W nm := I.mono h
theorem CFIn.of {own : List (Addr × Obj)} {x dx : Addr} {o : Obj} {its : List Item} (h : CfFull its o own) : CFIn ((x, instObj 507 dx) :: (dx, o) :: own) x its := by
  obtain ⟨li, a1, t1, a2, t2, u2, a3, t3, u3, a4, t4, u4, rfl, xs, nl, hl, hx, hi⟩ := h
  refine ⟨dx, _, .head _, .tail _ (.head _), li, a1, t1, a2, t2, u2, a3, t3, u3, a4, t4, u4, rfl, xs, nl, .tail _ (.tail _ hl), hx, fun j it y a b => ?_⟩
  obtain ⟨q, nm, i1, i2⟩ := hi j it y a b
  exact ⟨q, nm, i1.mono (fun p hp => .tail _ (.tail _ hp)), i2⟩
section
variable {prog : Program} {w : World} {A : Around} {s : Shared} {h₀ : Heap} {L : Addr} {m : PySem.Str → Option Value} {news : List (Addr × Obj)}
theorem cf_make {Q : Value → Shared → Prop} {E : Value → Shared → Prop} {p : Program} {loose : List PySem.Str} {mean : ExcName → Option Value} {mg mb : PySem.Str → Option Value} (F : Fr h₀ L s.heap m) (N : News h₀ L s.heap news) (X₀ : (Mine.hd.heap_39 w.params).In h₀) (T : Top p loose mean mg mb h₀) (H : Room A 13)
    (fs : List Fm) (eb : Bool) (t : Tok) (hne : fs ≠ []) (hsz : (SR.txs (fs.map Fm.tk)).length ≤ 500) (hW : ∀ f ∈ fs, 1 ≤ f.it.W ∧ f.it.W ≤ 100)
    (k : ∀ x h' tk' own, Fr h₀ L h' m → News h₀ L h' (news ++ own) → CFIn own x (fs.map (·.it)) → Q (.ref x) { s with heap := h', toks := tk' }) :
    wpAny (model PySem.Challenge.pw_bk5003_01 w) A (call (.ref 507) [.str (RS.tx (fmtL fs ++ if eb then [62] else [])) t] []) Q E s := by
  refine use_clsO (fI := 476) F N X₀ (by k_is) (by k_is) (by k_is) (fun s₁ g x dx kk kp kq kr lt => cf_init_spec1 (Bas.of X₀ T kk) (Room.under H _ _ _) fs eb t hne hsz hW x dx kp kq lt kr) ?_
  intro x dx h' tk' o own F' N' l1 l2 of' P
  refine k x h' tk' ((x, instObj 507 dx) :: (dx, o) :: own) F' (News.sub N' ?_) (CFIn.of P)
  intro p hp
  rcases List.mem_append.mp hp with hp | hp
  · exact List.mem_append_left _ (.tail _ (.tail _ hp))
  · rcases List.mem_cons.mp hp with rfl | hp
    · exact List.mem_append_left _ (.head _)
    · rcases List.mem_cons.mp hp with rfl | hp
      · exact List.mem_append_left _ (.tail _ (.head _))
      · exact List.mem_append_right _ hp
end
section
variable {M : Model} {A : Around} {E : Value → Shared → Prop} {s : Shared} {env : Env}
/-- a method called with a star: the bound method is made first -/
theorem MethodCall_star {o : Expr} {name : PySem.Str} {apos pos : Pos} {args : List Expr} {Q : Value → Shared → Prop}
    (h : wpAny M A (eval o env) (fun ov s₁ => wpAny M A (getAttr ov name true) (fun f s₂ => wpAny M A (callWith pos f [] (backTo pos (starEach args env)) []) Q E s₂) E s₁) E s)
    (he : eval (.Call (.Attribute o name apos) args [] pos) env = (do
      let ov ← eval o env
      standAt apos.atName
      let (f, first) ← holding [ov] (do let f ← getAttr ov name true; pure (f, []))
      callWith pos f first (backTo pos (starEach args env)) []) := by rfl) :
    wpAny M A (eval (.Call (.Attribute o name apos) args [] pos) env) Q E s := by
  rw [he]
  refine wpAny_bind (wpAny_mono h (fun ov s₁ h₁ => wpAny_bind (wpAny_standAt (wpAny_bind (wpAny_holding (wpAny_bind (wpAny_mono h₁ (fun f s₂ h₂ => wpAny_pure ?_) fun _ _ x => x)))))) fun _ _ x => x)
  exact h₂
end
section
variable {prog : Program} {w : World} {A : Around} {E : Value → Shared → Prop} {s : Shared} {K : Frag} {env : Env} {h₀ : Heap} {L : Addr} {m : PySem.Str → Option Value} {news : List (Addr × Obj)} {Q : Value → Shared → Prop}
theorem star_tup {a : Addr} {its : Array Value} {Q : List Value → Shared → Prop} (F : Fr h₀ L s.heap m) (N : News h₀ L s.heap news) (ht : IsTup s.heap a its)
    (hz : its.size ≤ sizeLine) (h : ∀ h', Fr h₀ L h' m → News h₀ L h' news → Q its.toList { s with heap := h' }) : StarOf (model prog w) A E (.ref a) Q s := by
  obtain ⟨o, D, hc, n, hd⟩ := ht
  have hT' : s.TypeIs (.ref a) "tuple" := ⟨o, D, hc⟩
  have z : wpAny (model prog w) A (collect (.ref a)) Q E s := wpAny_collect_seq a (.inr rfl) D hc hd (fun h' hk => h h' (Fr.ext F hk) (News.ext N hk)) hz
  unfold StarOf notIterableAtAll
  exact wpAny_bind (wpAny_specialOf hT' PySem.F.slot_tuple_iter.lookup (wpAny_pure ⟨rfl, z⟩))
theorem star_lst {a : Addr} {its : Array Value} {Q : List Value → Shared → Prop} (F : Fr h₀ L s.heap m) (N : News h₀ L s.heap news) (ht : s.heap.IsList a its)
    (hz : its.size ≤ sizeLine) (h : ∀ h', Fr h₀ L h' m → News h₀ L h' news → Q its.toList { s with heap := h' }) : StarOf (model prog w) A E (.ref a) Q s := by
  obtain ⟨o, D, hc, n, hd⟩ := ht
  have hT' : s.TypeIs (.ref a) "list" := ⟨o, D, hc⟩
  have z : wpAny (model prog w) A (collect (.ref a)) Q E s := wpAny_collect_seq a (.inl rfl) D hc hd (fun h' hk => h h' (Fr.ext F hk) (News.ext N hk)) hz
  unfold StarOf notIterableAtAll
  exact wpAny_bind (wpAny_specialOf hT' PySem.F.slot_list_iter.lookup (wpAny_pure ⟨rfl, z⟩))
theorem callWith_SM {q f : Addr} {self : Value} {e : Expr} {p pos : Pos} (hk : fnIn K f = true) (h : wpAny (model prog w) A (eval e env) (fun v s₁ => StarOf (model prog w) A E v (fun vs s₂ => MethP K q f self s₂.heap ∧ wpAny (model prog w) A (call (.ref q) ([] ++ vs)) Q E s₂) s₁) E s)
    (he : starEach [.Starred e p] env = [(true, eval e env)] := by rfl) :
    wpAny (model prog w) A (callWith pos (.ref q) [] (backTo pos (starEach [.Starred e p] env)) []) Q E s := by
  rw [he]
  exact ks_call rfl (keeps_M hk) (ks_lone h)
end
variable {w : World} {A : Around} {s : Shared}
section
local macro_rules | `(tactic| walk_at "mine go") => `(tactic| repeat' ((fail_if_success (with_reducible show Ret _ _ _ _)); first | (k_unfold; (try dsimp only)) | ((fail_if_success ((with_reducible show wpAny _ _ (call (Value.ref 507) _ _) _ _ _))); (fail_if_success (with_reducible show wpAny _ _ (exec (Stmt.Raise _ _ _) _) _ _ _)); (fail_if_success (with_reducible show wpAny _ _ (exec (Stmt.For _ _ _ _ _) _) _ _ _)); (fail_if_success (with_reducible show wpAny _ _ (exec (Stmt.While _ _ _ _) _) _ _ _)); (fail_if_success (with_reducible show wpAny _ _ (eval (Expr.ListComp _ _ _ _) _) _ _ _)); (fail_if_success (with_reducible show wpAny _ _ (exec (Stmt.Assign _ (Expr.ListComp _ _ _ _) _) _) _ _ _)); (first | walk1 | (dsimp only; walk1))) | fail "stop"))
theorem pack_spec (B : Bas w s.heap) (H : Room A 17) (fs : List Fm) (eb : Bool) (t : Tok) (hne : fs ≠ []) (hsz : (SR.txs (fs.map Fm.tk)).length ≤ 500) (hW : ∀ f ∈ fs, 1 ≤ f.it.W ∧ f.it.W ≤ 100) (its : List Item) (hits : its = fs.map (·.it)) (Ns : List Nat) (vs : List Value) (V : Vals its Ns vs) (hT : totW its ≤ 300) (hT1 : 1 ≤ totW its) (hL : its.length ≤ 100) (h4 : vs.length ≤ 4) :
    codeAny (model PySem.Challenge.pw_bk5003_01 w) A (.call (.ref 516) ⟨.str (RS.tx (fmtL fs ++ if eb then [62] else [])) t :: vs, []⟩) (Ret s fun v _ => ∃ t, v = .bytes (BT.toB ((totW its + 7) / 8) (catN its Ns 0 * 2 ^ (8 * ((totW its + 7) / 8) - totW its))).toArray t) s := by
  obtain ⟨X, p, loose, mean, mg, mb, T⟩ := B
  (k_dflt (refine' enterV (vs := vs) (binds := fun D' => [(PySem.Str.ofString "fmt", .str (RS.tx (fmtL fs ++ if eb then [62] else [])) t), (PySem.Str.ofString "args", .ref D')]) ?k1 ?k2 ?k6 ?k7 ?k8 ?kP ?kG ?kB ?_ ?c2 ?c3 ?c4 ?c5; (case k1 => k_asm); (case k2 => exact Top.nolimit (by assumption)); (case k6 => k_is); (case k7 => k_is); (case k8 => first | exact Nat.lt_of_le_of_lt (Nat.le_add_right _ _) (Room.hd (by assumption)) | (have hR9 := Room.hd (by assumption); omega)); (case kG => exact fun _ => rfl); (case kP => first | exact rfl | (rcases vs with _ | ⟨_, _ | ⟨_, _ | ⟨_, _ | ⟨_, _ | ⟨_, _⟩⟩⟩⟩⟩ <;> first | exact rfl | (exfalso; simp only [List.length_cons] at *; omega))); (case kB => exact fun _ => locs rfl); (case c5 => decide); (case c2 => exact rfl); (case c3 => exact rfl); (case c4 => exact rfl)); intro D' g' L' h' kk' Tv' F' N'; (try dsimp only); (try k_fold))
  obtain ⟨X, T⟩ := Bas.out X T kk'
  walk_at "mine go"
  (rename Fr _ _ _ _ => kF); (rename News _ _ _ _ => kN)
  refine MethodCall_star ?_
  walk_at "mine go"
  refine cf_make kF kN X T (by walk_at "mine room") fs eb t hne hsz hW ?_
  clear kF kN
  intro x h' tk' own F' N' hC
  rw [← hits] at hC
  simp only [List.nil_append] at N'
  have hC0 := hC
  obtain ⟨dx, o, hc1, hc2, li, a1, t1, a2, t2, u2, a3, t3, u3, a4, t4, u4, rfl, hC1⟩ := hC
  replace N' := News.dup (News.dup N' hc2) (.tail _ hc1)
  (try dsimp only)
  (try k_fold)
  walk_at "mine go"
  refine callWith_SM (K := Mine.hd.heap_39 w.params) (f := 483) (self := .ref x) (by k_is) ?_
  walk_at "mine go"
  (rename Fr _ _ _ _ => kF); (rename News _ _ _ _ => kN)
  refine star_tup kF kN (IsTup.keeps Tv' kF.keep) (by rw [List.size_toArray, sizeLine_eq]; omega) ?_
  clear kF kN
  intro h' F' N'
  refine ⟨⟨(N' _ (.head _)).1, X.keeps F'.keep⟩, ?_⟩
  (try k_fold)
  refine use_meth F' N' (.head _) (pack_meth_spec (Bas.at X T F') (by walk_at "mine room") its x Ns _ (hC0.is fun p hp => (N' p (.tail _ (.tail _ (.tail _ hp)))).1) V hT hT1 hL h4) ?_
  rintro v' h' tk' own F' N' ⟨t', rfl⟩
  (try dsimp only)
  (try k_fold)
  walk_at "mine go"
  exact ⟨_, _, _, [], rfl, rfl, kk'.trans (Fr.keep (by assumption)), (fun _ h => nomatch h), _, rfl⟩
end
end
-- L3
section
section
variable {prog : Program} {w : World} {A : Around} {s : Shared} {K : Frag}
/-- in at a generator def: its frame is laid, its body waits -/
theorem enterGen {R : Result → Shared → Prop} {name qual : Str} {params : Arguments} {body : List Stmt} {scope : Scope} {dV kV doc pm cdv ct oc : Value} {an od : Option Addr} {osl : Array (Option Value)} {f : Addr} {args : Args} {binds : List (Str × Value)}
    (X : K.In s.heap) (hlim : s.heap.NoLimit)
    (ho : K.lookup f = some ⟨oc, od, .func (fnOf name qual params body scope dV kV doc pm an cdv ct), osl⟩) (hcd : codeIn K cdv qual = true) (hroom : A.depth < recursionLimit)
    (hbind : BindsTo s (fnOf name qual params body scope dV kV doc pm an cdv ct) args binds) (hloc : ∀ y ∈ binds, scope.names.lookup y.1 = some .local)
    (h : ∀ L h₁ tk t1 t2, Fr s.heap L h₁ (fun y => binds.reverse.lookup y) → s.heap.get? L = none → L < h₁.objs.size → R (.ok (.ret (.ref h₁.objs.size))) { s with heap := h₁.push { cls := .type "generator", data := .fields #[.int s.gens.size 0, .str name t1, .str qual t2] }, gens := s.gens.push (.fresh (.func body (envOf qual scope L f cdv))), toks := tk })
    (hco : scope.isCoroutine = false) (hgen : scope.isGenerator = true) (hk : scope.kind = .function)
    (hcell : ∀ x ∈ scope.names, x.2 ≠ .cell) : codeAny (model prog w) A (.call (.ref f) args) R s := by
  refine codeAny_call_generator (fd := fnOf name qual params body scope dV kV doc pm an cdv ct) (body := body) hroom (X _ _ ho) rfl hco hgen rfl (codeRec_of X hcd) (hbind _ _ _ _ ?_)
  refine wpAny_newFunctionEnv hcell hloc (fun h₀ hns₀ hsb₀ => ⟨hlim.fresh _ hsb₀, ?_⟩) hk
  refine h s.heap.objs.size h₀ _ _ _ ⟨hns₀, fun b o e => hsb₀.extBut b o (Nat.ne_of_lt (Heap.lt_size e)) (Heap.get?_push_of_some _ e), Nat.le_refl _⟩ ?_ hns₀.lt
  cases e : s.heap.get? s.heap.objs.size with
  | none => rfl
  | some o => exact absurd (Heap.lt_size e) (Nat.lt_irrefl _)
end
section
variable {prog : Program} {w : World} {A : Around} {R : GenEnd} {Y : Protocol} {n : Nat} {s₀ s : Shared} {c : Code} {fs : List Frame} {env : Env} {K : Flow → Sem Fin} {H : Value → Sem Fin} {gd : Bool → Bool} {lv : List Value → List Value} {h₀ : Heap} {L : Addr}
theorem seg_cut {st : Stmt} {rest : List Stmt} (Pm : (PySem.Str → Option Value) → List (Addr × Obj) → Prop)
    (h1 : wpAny (model prog w) (A.over c fs) (exec st env) (CutP h₀ L Pm s) (fun _ _ => False) s)
    (h2 : ∀ h tk m news, Fr h₀ L h m → News h₀ L h news → Pm m news → Seg (model prog w) A R Y n s₀ c ((execs rest env).wrap K H gd lv) fs { s with heap := h, toks := tk }) :
    Seg (model prog w) A R Y n s₀ c ((execs (st :: rest) env).wrap K H gd lv) fs s := by
  refine seg_execs_cons (seg_wrap (wpAny_mono h1 (fun f s' h => ?_) fun _ _ x => x.elim))
  cases f with
  | next =>
    obtain ⟨h', tk, m', news', rfl, F, N, p⟩ := h
    exact h2 h' tk m' news' F N p
  | _ => exact h.elim
theorem seg_if_false {test : Expr} {body orelse : List Stmt} {pos : Pos} (Pm : (PySem.Str → Option Value) → List (Addr × Obj) → Prop)
    (h1 : wpAny (model prog w) (A.over c fs) (isTrue test env (eval test env)) (fun b s' => b = false ∧ Turn h₀ L Pm s s') (fun _ _ => False) s)
    (h2 : ∀ h tk m news, Fr h₀ L h m → News h₀ L h news → Pm m news → Seg (model prog w) A R Y n s₀ c ((execs orelse env).wrap K H gd lv) fs { s with heap := h, toks := tk }) :
    Seg (model prog w) A R Y n s₀ c ((exec (.If test body orelse pos) env).wrap K H gd lv) fs s := by
  rw [exec_If]
  show Seg _ A R Y n s₀ c (.at pos fun _ => ((isTrue test env (eval test env)) >>= fun b => if b = true then execs body env else execs orelse env).wrap K H gd lv) fs s
  refine seg_at (seg_bind_wrap (wpAny_mono h1 (fun b s' h => ?_) fun _ _ x => x.elim))
  obtain ⟨rfl, h', tk, m', news', rfl, F, N, p⟩ := h
  exact h2 h' tk m' news' F N p
theorem seg_For {target iter : Expr} {body orelse : List Stmt} {pos : Pos} (hs : ∀ x, foldedSetIterable iter env x = pure x)
    (h : wpAny (model prog w) (A.over c fs) (eval iter env) (fun x s₁ => wpAny (model prog w) (A.over c fs) (pyIter x) (fun it s₂ => ∀ p,
      Seg (model prog w) A R Y n s₀ (.forLoop target it body orelse env) ((model prog w).den (.forLoop target it body orelse env))
      (.ret (fun r => ((match r with | .ok f => (.pure f : Sem Flow) | .error e => .raise e).onRaise fun (x : Value) => do
        if (← field x 1) == Value.none then unsupported "frame.own-activation:exception-without-traceback"
        setFlight x env.frame).wrap K H gd lv) none (gd false) (lv []) c p [] :: fs) s₂) (fun _ _ => False) s₁) (fun _ _ => False) s) :
    Seg (model prog w) A R Y n s₀ c ((exec (.For target iter body orelse pos) env).wrap K H gd lv) fs s := by
  rw [exec_For]
  show Seg _ A R Y n s₀ c (.at pos fun _ => ((eval iter env) >>= fun x => foldedSetIterable iter env x >>= fun x => standAt iter.pos >>= fun _ => holding [x] (pyIter x) >>= fun it => runOwn (.forLoop target it body orelse env) env).wrap K H gd lv) fs s
  refine seg_at (seg_bind_wrap (wpAny_mono h (fun x s₁ h₁ => ?_) fun _ _ x => x.elim))
  refine seg_bind_wrap (wpAny_of_eq (hs x) ?_)
  refine seg_bind_wrap (wpAny_standAt ?_)
  refine seg_bind_wrap (wpAny_holding (wpAny_mono h₁ (fun it s₂ h₂ => ?_) fun _ _ x => x.elim))
  exact seg_call h₂
theorem seg_forLoop {target it : _} {body : List Stmt}
    (h : wpAny (model prog w) (A.over (.forLoop target it body [] env) fs) (pyNext it) (fun r s₁ => match r with
      | none => Seg (model prog w) A R Y n s₀ (.block [] env) (leafOf (.ok .next)) fs s₁
      | some v => wpAny (model prog w) (A.over (.forLoop target it body [] env) fs) (letOwnedTupleGo target it v) (fun _ s₂ =>
          wpAny (model prog w) (A.over (.forLoop target it body [] env) fs) (assign target env v) (fun _ s₃ => ∀ (K : Flow → Sem Fin) (H : Value → Sem Fin), K .next = .pure (.again (.forLoop target it body [] env)) →
            Seg (model prog w) A R Y n s₀ (.forLoop target it body [] env) ((execs body env).wrap K H id id) fs s₃) (fun _ _ => False) s₂) (fun _ _ => False) s₁) (fun _ _ => False) s) :
    Seg (model prog w) A R Y n s₀ (.forLoop target it body [] env) ((model prog w).den (.forLoop target it body [] env)) fs s := by
  show Seg _ A R Y n s₀ _ ((forTurn target it body [] env).onRaise (fun x => do noteFrame x env; theTreesLotGoes x)) fs s
  unfold forTurn
  rw [Sem.onRaise_eq_wrap]
  refine seg_bind_wrap (wpAny_standAt ?_)
  refine seg_bind_wrap (wpAny_onRaise (wpAny_mono h (fun r s₁ h₁ => ?_) fun _ _ x => x.elim))
  cases r with
  | none => exact seg_again rfl h₁
  | some v =>
    refine seg_bind_wrap (wpAny_mono h₁ (fun _ s₂ h₂ => ?_) fun _ _ x => x.elim)
    refine seg_bind_wrap (wpAny_mono h₂ (fun _ s₃ h₃ => ?_) fun _ _ x => x.elim)
    show Seg _ A R Y n s₀ _ (Sem.wrap _ _ _ _ (_ >>= _)) fs s₃
    rw [Sem.bind_eq_wrap', Sem.wrap_wrap]
    exact h₃ _ _ rfl
end
theorem Room.over {A : Around} {n : Nat} (H : Room A (n + 2)) {c : Code} {fs : List Frame} (h1 : (marksOver fs (none, none)).1 = none) (h2 : frameCount (fs.map Frame.where_) + c.weight ≤ 6) (h3 : unitsOf (fs.map Frame.where_) + c.cUnits ≤ 400) : Room (A.over c fs) n :=
  ⟨by show (marksOver fs (A.handled, A.handled)).1 = none; rw [H.hh]; exact h1, by
    have := H.hd
    show A.depth + frameCount (fs.map Frame.where_) + c.weight + _ < _
    omega, by
    have := H.hu
    show A.units + unitsOf (fs.map Frame.where_) + c.cUnits + _ < _
    omega⟩
end
-- F16
section
/-- what unpack tells of the number N of W bits -/
def UVal : Kd → Nat → Nat → Value → Prop
  | .u, _, N, v => ∃ t, v = .int (N : Int) t
  | .s, W, N, v => ∃ t, v = .int (toS W N) t
  | .b, _, N, v => v = .bool (N != 0)
  | .r, W, N, v => ∃ t, v = .bytes (BT.toB ((W + 7) / 8) (N * 2 ^ (8 * ((W + 7) / 8) - W))).toArray t
  | _, _, _, _ => False
def isIt (o : Obj) : Bool := decide (o.cls = .type "list_iterator") && (match o.data with | .fields _ => true | _ => false)
theorem isIt_of {o : Obj} {vs : Array Value} (h1 : o.cls = .type "list_iterator") (h2 : o.data = .fields vs) : isIt o = true := by
  unfold isIt; rw [h1, h2]; rfl
/-- all that is neither the generator's frame nor its list's iterator stands as it stood -/
def GKeep (h₀ : Heap) (L : Addr) (a b : Heap) : Prop := ∀ x o, x ≠ L → (h₀.get? x = none → isIt o = false) → a.get? x = some o → b.get? x = some o
theorem GKeep.refl (h₀ : Heap) (L : Addr) (a : Heap) : GKeep h₀ L a a := fun _ _ _ _ e => e
/-- all of a heap that is neither in the base, nor the frame, nor an iterator -/
def restOf (h h₀ : Heap) (L : Addr) : List (Addr × Obj) :=
  (List.range h.objs.size).filterMap fun b => match h.get? b with
    | some o => if b = L ∨ (h₀.get? b).isSome = true ∨ isIt o = true then none else some (b, o)
    | none => none
theorem restOf_mem {h h₀ : Heap} {L : Addr} {p : Addr × Obj} : p ∈ restOf h h₀ L ↔ h.get? p.1 = some p.2 ∧ p.1 ≠ L ∧ h₀.get? p.1 = none ∧ isIt p.2 = false := by
  unfold restOf
  rw [List.mem_filterMap]
  constructor
  · rintro ⟨b, hb, e⟩
    cases hg : h.get? b with
    | none => rw [hg] at e; cases e
    | some o =>
      rw [hg] at e
      dsimp only at e
      split at e
      · cases e
      · rename_i hn
        cases e
        refine ⟨hg, fun c => hn (.inl c), ?_, Bool.eq_false_iff.mpr fun c => hn (.inr (.inr c))⟩
        cases hz : h₀.get? b with
        | none => rfl
        | some o' => exact absurd (.inr (.inl (by rw [hz]; rfl))) hn
  · rintro ⟨hg, h1, h2, h3⟩
    refine ⟨p.1, List.mem_range.mpr (Heap.lt_size hg), ?_⟩
    rw [hg]
    dsimp only
    rw [if_neg]
    rintro (c | c | c)
    · exact h1 c
    · rw [h2] at c; cases c
    · rw [h3] at c; cases c
theorem rest_news {h h₀ : Heap} {L : Addr} : News h₀ L h (restOf h h₀ L) := fun p hp => let ⟨a, b, c, _⟩ := restOf_mem.mp hp; ⟨a, b, c⟩
theorem rest_keep {h₀ h h' : Heap} {L : Addr} {m : PySem.Str → Option Value} {pre : List (Addr × Obj)} (F : Fr h₀ L h' m) (F0 : ∀ b o, h₀.get? b = some o → h.get? b = some o) (N : News h₀ L h' (pre ++ restOf h h₀ L)) : GKeep h₀ L h h' := by
  intro x o hx hi e
  cases hz : h₀.get? x with
  | some o' =>
    have := F0 x o' hz
    rw [e] at this; cases this
    exact F.keep _ _ hz
  | none => exact (N (x, o) (List.mem_append_right _ (restOf_mem.mpr ⟨e, hx, hz, hi hz⟩))).1
/-- the generator's yields: one value a group -/
def Gy (its : List Item) (Ns : List Nat) (h₀ : Heap) (L : Addr) : Protocol := fun n s₀ v s kap =>
  (∃ (a : Addr) (xr : Value) (it : Item) (N : Nat) (val : Value) (nt : Nat), its[its.length - 1 - n]? = some it ∧ Ns[its.length - 1 - n]? = some N ∧ v = .ref a ∧ s.heap.get? a = some ({ cls := .type "tuple", data := .seq [xr, val].toArray nt } : Obj) ∧ UVal it.k it.W N val) ∧
  (∃ h tk, s = { s₀ with heap := h, toks := tk } ∧ GKeep h₀ L s₀.heap h) ∧
  ∀ s'' : Shared, (∀ b o, h₀.get? b = some o → s''.heap.get? b = some o) → (∀ o, s.heap.get? L = some o → s''.heap.get? L = some o) → (∀ b o, isIt o = true → s.heap.get? b = some o → s''.heap.get? b = some o) → kap (.send .none) s''
def Gr (h₀ : Heap) (L : Addr) : Nat → Shared → Shared → Prop := fun n s₀ s => n = 0 ∧ ∃ h tk, s = { s₀ with heap := h, toks := tk } ∧ GKeep h₀ L s₀.heap h
theorem seg_ind {N : Nat} {G : Nat → Shared → Shared → Prop} (Inv : Nat → Shared → Shared → Prop) (turn : ∀ j s₀ s, j ≤ N → Inv j s₀ s → (∀ s₀' s', j < N → Inv (j + 1) s₀' s' → G (N - (j + 1)) s₀' s') → G (N - j) s₀ s) (s₀ s : Shared) (h : Inv 0 s₀ s) : G N s₀ s := by
  have key : ∀ k j s₀ s, j + k = N → Inv j s₀ s → G (N - j) s₀ s := by
    intro k
    induction k with
    | zero => intro j s₀ s hj hI; exact turn j s₀ s (by omega) hI (fun _ _ hlt _ => by omega)
    | succ k ih => intro j s₀ s hj hI; exact turn j s₀ s (by omega) hI (fun s₀' s' hlt hI' => ih (j + 1) s₀' s' (by omega) hI')
  exact key N 0 s₀ s (by omega) h
/-- the bits of a row of groups -/
def flatB : List Item → List Nat → List Nat
  | it :: r, N :: Ns => BT.bl it.W N ++ flatB r Ns
  | _, _ => []
theorem bl_catN : ∀ (its : List Item) (Ns : List Nat) (V M : Nat), its.length = Ns.length → (∀ (j : Nat) (it : Item) (N : Nat), its[j]? = some it → Ns[j]? = some N → N < 2 ^ it.W) → BT.bl (V + totW its) (catN its Ns M) = BT.bl V M ++ flatB its Ns
  | [], [], V, M, _, _ => by simp [catN, totW, flatB]
  | it :: r, N :: Ns, V, M, hl, hj => by
    have h0 := hj 0 it N rfl rfl
    have e : totW (it :: r) = it.W + totW r := by simp [totW]
    show BT.bl _ (catN r Ns (M * 2 ^ it.W + N)) = BT.bl V M ++ (BT.bl it.W N ++ flatB r Ns)
    rw [e, ← Nat.add_assoc, bl_catN r Ns (V + it.W) _ (by simpa using hl) (fun j a b p q => hj (j + 1) a b p q), ← List.append_assoc, BT.bl_app' h0]
theorem flatB_cut : ∀ (its : List Item) (Ns : List Nat) (j : Nat) (it : Item) (N : Nat), its[j]? = some it → Ns[j]? = some N → its.length = Ns.length → ((flatB its Ns).drop (totW (its.take j))).take it.W = BT.bl it.W N
  | i0 :: r, N0 :: Ns, 0, it, N, h1, h2, _ => by
    cases h1; cases h2
    show ((BT.bl i0.W N0 ++ flatB r Ns).drop 0).take i0.W = _
    rw [List.drop_zero]
    have := List.take_left (l₁ := BT.bl i0.W N0) (l₂ := flatB r Ns)
    rwa [BT.bl_length] at this
  | i0 :: r, N0 :: Ns, j + 1, it, N, h1, h2, hl => by
    have e : totW ((i0 :: r).take (j + 1)) = i0.W + totW (r.take j) := by simp [totW]
    show (((BT.bl i0.W N0 ++ flatB r Ns)).drop _).take it.W = _
    rw [e, ← List.drop_drop]
    have := List.drop_left (l₁ := BT.bl i0.W N0) (l₂ := flatB r Ns)
    rw [BT.bl_length] at this
    rw [this]
    exact flatB_cut r Ns j it N h1 h2 (by simpa using hl)
  | [], _, _, _, _, h1, _, _ => by cases h1
  | _ :: _, [], _, _, _, _, h2, _ => by cases h2
theorem bits_cut {its : List Item} {Ns : List Nat} {j : Nat} {it : Item} {N : Nat} (hl : its.length = Ns.length) (hj : ∀ (j : Nat) (it : Item) (N : Nat), its[j]? = some it → Ns[j]? = some N → N < 2 ^ it.W) (h1 : its[j]? = some it) (h2 : Ns[j]? = some N) :
    Txt.slice (RS.tx (BT.bl (totW its) (catN its Ns 0))) (some ((totW (its.take j) : Nat) : Int)) (some (((totW (its.take j) : Nat) : Int) + (it.W : Int))) = RS.tx (BT.bl it.W N) := by
  have e := bl_catN its Ns 0 0 hl hj
  rw [Nat.zero_add] at e
  have h3 := totW_take h1
  have h4 := totW_take_le its (j + 1)
  rw [show (((totW (its.take j) : Nat) : Int) + (it.W : Int)) = ((totW (its.take j) + it.W : Nat) : Int) by omega, RS.tx_mid _ _ _ (by omega) (by rw [BT.bl_length]; omega), e]
  show RS.tx (((BT.bl 0 0 ++ flatB its Ns).drop _).take _) = _
  rw [show BT.bl 0 0 = [] from rfl, List.nil_append, Nat.add_sub_cancel_left, flatB_cut its Ns j it N h1 h2 hl]
end
-- F17
section
variable {w : World} {A : Around} {s : Shared}
local macro_rules | `(tactic| walk_at "call ref") => `(tactic| k_dflt ((k_here; k_dflt (refine' use_spec0 ?F ?N (unpacku_spec ?B ?H _ _ _ _ ?hw ?hw2 ?hn) ?_; (case F => k_asm); (case N => k_asm); (case B => walk_at "mine bas"); (case H => walk_at "mine room"); (case hw => walk_at "mine side"); (case hw2 => walk_at "mine side"); (case hn => walk_at "mine side")); intro v' h' tk' own' F' N' pv'; k_sweep; (obtain ⟨t', e'⟩ := pv'; subst e'); (try dsimp only); (try k_fold))))

local macro_rules | `(tactic| walk_at "call ref") => `(tactic| k_dflt ((k_here; k_dflt (refine' use_spec0 ?F ?N (unpacks_spec ?B ?H _ _ _ _ ?hw ?hw2 ?hn) ?_; (case F => k_asm); (case N => k_asm); (case B => walk_at "mine bas"); (case H => walk_at "mine room"); (case hw => walk_at "mine side"); (case hw2 => walk_at "mine side"); (case hn => walk_at "mine side")); intro v' h' tk' own' F' N' pv'; k_sweep; (obtain ⟨t', e'⟩ := pv'; subst e'); (try dsimp only); (try k_fold))))

local macro_rules | `(tactic| walk_at "call ref") => `(tactic| k_dflt ((k_here; k_dflt (refine' use_spec0 ?F ?N (unpackb_spec ?B ?H _ _ _ _ _ ?I ?hw ?hw2 ?hn) ?_; (case F => k_asm); (case N => k_asm); (case B => walk_at "mine bas"); (case H => walk_at "mine room"); (case I => walk_at "mine side"); (case hw => walk_at "mine side"); (case hw2 => walk_at "mine side"); (case hn => walk_at "mine side")); intro v' h' tk' own' F' N' pv'; k_sweep; subst pv'; (try dsimp only); (try k_fold))))

local macro_rules | `(tactic| walk_at "call ref") => `(tactic| k_dflt ((k_here; k_dflt (refine' use_spec0 ?F ?N (unpackr_spec ?B ?H _ _ _ _ _ ?I ?hw ?hw2 ?hn) ?_; (case F => k_asm); (case N => k_asm); (case B => walk_at "mine bas"); (case H => walk_at "mine room"); (case I => walk_at "mine side"); (case hw => walk_at "mine side"); (case hw2 => walk_at "mine side"); (case hn => walk_at "mine side")); intro v' h' tk' own' F' N' pv'; k_sweep; (obtain ⟨t', e'⟩ := pv'; subst e'); (try dsimp only); (try k_fold))))

theorem gen_call (B : Bas w s.heap) (H : Room A 2) (its : List Item) (c : Addr) (Ns : List Nat) (bs : List UInt8) (t t0 : Tok) (C : IsCF s.heap c its) (hk : ∀ it ∈ its, it.k = .u ∨ it.k = .s ∨ it.k = .b ∨ it.k = .r) (hl : its.length = Ns.length)
    (hN : ∀ (j : Nat) (it : Item) (N : Nat), its[j]? = some it → Ns[j]? = some N → N < 2 ^ it.W) (hT : totW its = 8 * bs.length) (hM : BT.fromB bs = catN its Ns 0) (hsz : bs.length ≤ 40) (hL : its.length ≤ 100) :
    codeAny (model PySem.Challenge.pw_bk5003_01 w) A (.call (.ref 438) ⟨[.ref c, .bytes bs.toArray t, .int 0 t0], [(PySem.Str.ofString "allow_truncated", .bool false)]⟩) (fun r s' => ∃ a h' tk gs L, r = .ok (.ret (.ref a)) ∧ s' = { s with heap := h', toks := tk, gens := s.gens.push gs } ∧ Ext s.heap h' ∧ h'.IsGen a s.gens.size ∧ s.heap.get? a = none ∧ a ≠ L ∧ s.heap.get? L = none ∧ L < h'.objs.size ∧ s.heap.objs.size ≤ L ∧ L < a ∧
      ∀ A₁, Room A₁ 12 → ∀ s'' : Shared, (∀ b o, s.heap.get? b = some o → s''.heap.get? b = some o) → (∀ o, h'.get? L = some o → s''.heap.get? L = some o) →
        gs.Goes (model PySem.Challenge.pw_bk5003_01 w) A₁ (fun n s₀ r s₁ => r = .ok (.ret .none) ∧ Gr s.heap L n s₀ s₁) (Gy its Ns s.heap L) its.length (.send .none) s'') s := by
  obtain ⟨X, p, loose, mean, mg, mb, T⟩ := B
  (k_dflt (refine' enterGen (binds := [(PySem.Str.ofString "self", .ref c), (PySem.Str.ofString "data", .bytes bs.toArray t), (PySem.Str.ofString "offset", .int 0 t0), (PySem.Str.ofString "allow_truncated", .bool false)]) ?k1 ?k2 ?k6 ?k7 ?k8 ?k9 ?kB ?_ ?c2 ?c3 ?c4 ?c5; (case k1 => k_asm); (case k2 => exact Top.nolimit (by assumption)); (case k6 => k_is); (case k7 => k_is); (case k8 => first | exact Nat.lt_of_le_of_lt (Nat.le_add_right _ _) (Room.hd (by assumption)) | (have hR9 := Room.hd (by assumption); omega)); (case k9 => first | exact hb9 _ _ _ _ (by k_is) | exact BindsTo.of_eq rfl | exact binds_K (by k_in) rfl (by k_is) rfl rfl rfl); (case c5 => decide); (case kB => exact locs rfl); (case c2 => exact rfl); (case c3 => exact rfl); (case c4 => exact rfl)); intro L' h' tk' t1' t2' F' hL' hlt'; (try dsimp only); (try k_fold))
  have hab := F'.above
  refine ⟨_, _, _, _, L', rfl, rfl, fun b o e => Heap.get?_push_of_some _ (F'.keep b o e), ⟨_, _, _, Heap.get?_push_size _ rfl, rfl, rfl, rfl⟩, ?_, ?_, hL', ?_, hab, hlt', ?_⟩
  · cases e : s.heap.get? h'.objs.size with
    | none => rfl
    | some o => exact absurd (Nat.lt_of_lt_of_le (Heap.lt_size e) hab) (Nat.not_lt.mpr (Nat.le_of_lt hlt'))
  · exact fun e => Nat.lt_irrefl _ (e ▸ hlt')
  · rw [Heap.size_push]; exact Nat.lt_succ_of_lt hlt'
  · intro A₁ H₁ s'' hk0 hkL
    refine ⟨rfl, ?_⟩
    have F2 : Fr s.heap L' s''.heap _ := ⟨(F'.ns.push _).at' hkL, hk0, hab⟩
    have N2 : News s.heap L' s''.heap (restOf s''.heap s.heap L') := rest_news
    clear F' hkL
    obtain ⟨rest, hrest⟩ : ∃ rest, rest = restOf s''.heap s.heap L' := ⟨_, rfl⟩
    rw [← hrest] at N2
    refine seg_func (seg_cut (h₀ := s.heap) (L := L') (fun m nw => nw = rest ∧ MR m (PySem.Str.ofString "self") c ∧ m (PySem.Str.ofString "allow_truncated") = some (.bool false) ∧ ∃ t, m (PySem.Str.ofString "bits") = some (.str (RS.tx (BT.bl (totW its) (catN its Ns 0))) t)) ?_ ?_)
    · generalize hA2 : A₁.over _ _ = A2
      have H2 : Room A2 10 := by rw [← hA2]; exact Room.over H₁ rfl (Nat.le_of_ble_eq_true rfl) (Nat.le_of_ble_eq_true rfl)
      clear hA2
      have e1 : (#[48, 49] : Array UInt8) ++ (RE.asciiL (RB.hexL bs)).toArray = (48 :: 49 :: RE.asciiL (RB.hexL bs)).toArray := by simp
      have hlt := BT.fromB_lt bs
      have e2 := RS.bin_bl (8 * bs.length) (BT.fromB bs) (by rw [← BT.pow_256]; exact hlt)
      rw [← BT.pow_256] at e2
      have e3 : Txt.slice (RS.tx (48 :: 98 :: 49 :: BT.bl (8 * bs.length) (BT.fromB bs))) (some (3 + 0)) none = RS.tx (BT.bl (totW its) (catN its Ns 0)) := by
        rw [show (3 + 0 : Int) = ((3 : Nat) : Int) from rfl, RS.tx_from _ 3 (by simp only [List.length_cons]; omega), hT, hM]; rfl
      walk_at "mine go"
      (rename Fr _ _ _ _ => kF); (rename News _ _ _ _ => kN)
      exact Turn.mk' kF kN ⟨rfl, by walk_at "mine look", by walk_at "mine look", _, by walk_at "mine look"⟩
    clear F2 N2
    rintro h1 tk1 m1 news1 F2 N2 ⟨rfl, g1, g2, tb, g3⟩
    have C0 := C
    obtain ⟨dc, nc, li, xs, b1, y1, b2, y2, z2, b3, y3, z3, b4, y4, z4, Ic, Lc, Xc⟩ := C
    refine seg_cut (h₀ := s.heap) (L := L') (fun m nw => nw = news1 ∧ MR m (PySem.Str.ofString "self") c ∧ ∃ t, m (PySem.Str.ofString "bits") = some (.str (RS.tx (BT.bl (totW its) (catN its Ns 0))) t)) ?_ ?_
    · generalize hA2 : A₁.over _ _ = A2
      have H2 : Room A2 10 := by rw [← hA2]; exact Room.over H₁ rfl (Nat.le_of_ble_eq_true rfl) (Nat.le_of_ble_eq_true rfl)
      clear hA2
      walk_at "mine go"
      (rename Fr _ _ _ _ => kF); (rename News _ _ _ _ => kN)
      exact Turn.mk' kF kN ⟨rfl, by walk_at "mine look", _, by walk_at "mine look"⟩
    clear F2 N2 g1 g2 g3
    rintro h1 tk1 m1 news1 F2 N2 ⟨rfl, g1, tb, g3⟩
    refine seg_cut (h₀ := s.heap) (L := L') (fun m nw => nw = news1 ∧ MR m (PySem.Str.ofString "self") c ∧ (∃ t, m (PySem.Str.ofString "bits") = some (.str (RS.tx (BT.bl (totW its) (catN its Ns 0))) t)) ∧ ∃ t, m (PySem.Str.ofString "offset") = some (.int 0 t)) ?_ ?_
    · generalize hA2 : A₁.over _ _ = A2
      have H2 : Room A2 10 := by rw [← hA2]; exact Room.over H₁ rfl (Nat.le_of_ble_eq_true rfl) (Nat.le_of_ble_eq_true rfl)
      clear hA2
      walk_at "mine go"
      (rename Fr _ _ _ _ => kF); (rename News _ _ _ _ => kN)
      exact Turn.mk' kF kN ⟨rfl, by walk_at "mine look", ⟨_, by walk_at "mine look"⟩, _, by walk_at "mine look"⟩
    clear F2 N2 g1 g3
    rintro h1 tk1 m1 news1 F2 N2 ⟨rfl, g1, ⟨tb, g3⟩, to, g4⟩
    refine seg_execs_cons (seg_For (fun _ => rfl) ?_)
    generalize hA2 : A₁.over _ _ = A2
    have H2 : Room A2 10 := by rw [← hA2]; exact Room.over H₁ rfl (Nat.le_of_ble_eq_true rfl) (Nat.le_of_ble_eq_true rfl)
    clear hA2
    walk_at "mine go"
    have Ll : h1.IsList li (xs.map Value.ref).toArray := Lc.at fun o e => F2.keep _ _ e
    refine wpAny_pyIter_list Ll ?_
    have hI0 := next_is_new F2
    have hIL : L' ≠ h1.objs.size := Nat.ne_of_lt F2.ns.lt
    have F3 := F2.push ({ cls := .type "list_iterator", data := .fields #[.ref li, .int 0 0] } : Obj)
    have N3 : News s.heap L' (h1.push { cls := .type "list_iterator", data := .fields #[.ref li, .int 0 0] }) news1 := News.grown N2 fun b o e => Heap.get?_push_of_some _ e
    have hit3 : (h1.push { cls := .type "list_iterator", data := .fields #[.ref li, .int 0 0] }).IsListIter h1.objs.size li 0 := ⟨_, Heap.get?_push_size _ rfl, rfl, rfl⟩
    obtain ⟨I, hI⟩ : ∃ I, I = h1.objs.size := ⟨_, rfl⟩
    rw [← hI] at hit3 hI0 hIL ⊢
    intro p9
    refine seg_ind (N := its.length) (G := fun n s₀ s => Seg _ _ _ _ n s₀ _ _ _ s) (fun j s₀ s₁ => ∃ h tk m, s₁ = { s₀ with heap := h, toks := tk } ∧ Fr s.heap L' h m ∧ News s.heap L' h (restOf s₀.heap s.heap L') ∧ (∀ b o, s.heap.get? b = some o → s₀.heap.get? b = some o) ∧ h.IsListIter I li j ∧ MR m (PySem.Str.ofString "self") c ∧ (∃ t, m (PySem.Str.ofString "bits") = some (.str (RS.tx (BT.bl (totW its) (catN its Ns 0))) t)) ∧ (∃ t, m (PySem.Str.ofString "offset") = some (.int (totW (its.take j) : Nat) t))) ?_ s'' _ ⟨_, _, _, rfl, F3, by rw [← hrest]; exact N3, hk0, hit3, g1, ⟨_, g3⟩, ⟨_, g4⟩⟩
    clear F2 F3 N2 N3 hit3 g1 g3 g4 hrest hI H2
    rintro j s₀ s₁ hj ⟨h, tk, m, rfl, F2, N2, hkb, hit, g1, ⟨tb, g3⟩, ⟨to, g4⟩⟩ ih
    refine seg_forLoop ?_
    have Ll : h.IsList li (xs.map Value.ref).toArray := Lc.at fun o e => F2.keep _ _ e
    obtain ⟨oI, hoI, hcI, hdI⟩ := id hit
    have hIr : ∀ p ∈ restOf s₀.heap s.heap L', p.1 ≠ I := by
      intro p hp e
      have h5 := (N2 p hp).1
      rw [e, hoI] at h5
      cases h5
      have := (restOf_mem.mp hp).2.2.2
      rw [isIt_of hcI hdI] at this; cases this
    generalize hA2 : A₁.over _ _ = A2
    have H2 : Room A2 10 := by rw [← hA2]; exact Room.over H₁ rfl (Nat.le_of_ble_eq_true rfl) (Nat.le_of_ble_eq_true rfl)
    clear hA2
    rcases Nat.lt_or_ge j its.length with hlt | hge
    · obtain ⟨it, hitj⟩ : ∃ it, its[j]? = some it := ⟨_, List.getElem?_eq_getElem hlt⟩
      obtain ⟨N, hNj⟩ : ∃ N, Ns[j]? = some N := ⟨_, List.getElem?_eq_getElem (by rw [← hl]; exact hlt)⟩
      obtain ⟨x, hxj⟩ : ∃ x, xs[j]? = some x := ⟨_, List.getElem?_eq_getElem (by rw [Xc.1]; exact hlt)⟩
      obtain ⟨w1, w2, nm, Ix, hnm⟩ := Xc.2 j it x hitj hxj
      refine wpAny_pyNext_list_item hit Ll (x := .ref x) (by rw [List.getElem?_toArray, List.getElem?_map, hxj]; rfl) fun h4 hit4 hs4 => ?_
      refine letGo_name ?_
      obtain ⟨oI4, hoI4, hcI4, hdI4⟩ := id hit4
      have F4 : Fr s.heap L' h4 m := Fr.but F2 (fun b o e => hs4.extBut b o (fun q => by rw [q, hI0] at e; cases e) (F2.keep _ _ e)) fun o e => hs4.extBut _ _ hIL e
      have N4 : News s.heap L' h4 ((I, oI4) :: restOf s₀.heap s.heap L') := fun p hp => by
        rcases List.mem_cons.mp hp with rfl | hp
        · exact ⟨hoI4, fun e => hIL e.symm, hI0⟩
        · exact ⟨hs4.extBut _ _ (hIr p hp) (N2 p hp).1, (N2 p hp).2⟩
      clear F2 N2 hit hoI hs4 hoI4
      walk_at "mine go"
      clear H2
      (rename Fr _ _ _ _ => kF); (rename News _ _ _ _ => kN)
      rename_i K9 H9 hK9
      rw [show its.length - j = (its.length - (j + 1)) + 1 by omega]
      have hcut := bits_cut hl hN hitj hNj
      have htk := totW_take hitj
      have htl := totW_take_le its (j + 1)
      have hNb := hN j it N hitj hNj
      have hT2 : totW its ≤ 320 := by omega
      have w3 : it.W ≤ 450 := by omega
      have hk2 := hk it (List.mem_of_getElem? hitj)
      have Ix0 := Ix
      obtain ⟨dx, nx, es, Ix, Jx⟩ := Ix
      obtain ⟨k, W⟩ := it
      dsimp only at *
      cases k with
      | u =>
        obtain ⟨a1, t1, u1, a2, t2, a3, t3, u3, a4, t4, u4, rfl⟩ := Jx
        refine seg_cut (h₀ := s.heap) (L := L') (fun m nw => nw = (I, oI4) :: restOf s₀.heap s.heap L' ∧ MR m (PySem.Str.ofString "self") c ∧ MR m (PySem.Str.ofString "info") x ∧ (∃ t, m (PySem.Str.ofString "bits") = some (.str (RS.tx (BT.bl (totW its) (catN its Ns 0))) t)) ∧ (∃ t, m (PySem.Str.ofString "offset") = some (.int (totW (its.take j) : Nat) t))) ?_ ?_
        · generalize hA2 : A₁.over _ _ = A2
          have H2 : Room A2 10 := by rw [← hA2]; exact Room.over H₁ rfl (Nat.le_of_ble_eq_true rfl) (Nat.le_of_ble_eq_true rfl)
          clear hA2
          (walk_at "mine go")
          (rename Fr _ _ _ _ => kF'); (rename News _ _ _ _ => kN')
          exact Turn.mk' kF' kN' ⟨rfl, by walk_at "mine look", by walk_at "mine look", ⟨_, by walk_at "mine look"⟩, _, by walk_at "mine look"⟩
        clear kF kN
        rintro h5 tk5 m5 nw5 kF kN ⟨rfl, p1, p2, ⟨tb5, p3⟩, to5, p4⟩
        refine seg_execs_cons (seg_if_false (h₀ := s.heap) (L := L') (fun m nw => nw = (I, oI4) :: restOf s₀.heap s.heap L' ∧ MR m (PySem.Str.ofString "self") c ∧ MR m (PySem.Str.ofString "info") x ∧ (∃ t, m (PySem.Str.ofString "bits") = some (.str (RS.tx (BT.bl (totW its) (catN its Ns 0))) t)) ∧ (∃ t, m (PySem.Str.ofString "offset") = some (.int (totW (its.take j) : Nat) t))) ?_ ?_)
        · generalize hA2 : A₁.over _ _ = A2
          have H2 : Room A2 10 := by rw [← hA2]; exact Room.over H₁ rfl (Nat.le_of_ble_eq_true rfl) (Nat.le_of_ble_eq_true rfl)
          clear hA2
          (walk_at "mine go")
          (rename Fr _ _ _ _ => kF'); (rename News _ _ _ _ => kN')
          exact Turn.mk' kF' kN' ⟨rfl, by walk_at "mine look", by walk_at "mine look", ⟨_, by walk_at "mine look"⟩, _, by walk_at "mine look"⟩
        clear kF kN p1 p2 p3 p4
        rintro h5 tk5 m5 nw5 kF kN ⟨rfl, p1, p2, ⟨tb5, p3⟩, to5, p4⟩
        refine seg_cut (h₀ := s.heap) (L := L') (fun m nw => nw = (I, oI4) :: restOf s₀.heap s.heap L' ∧ MR m (PySem.Str.ofString "self") c ∧ MR m (PySem.Str.ofString "info") x ∧ (∃ t, m (PySem.Str.ofString "bits") = some (.str (RS.tx (BT.bl (totW its) (catN its Ns 0))) t)) ∧ (∃ t, m (PySem.Str.ofString "offset") = some (.int (totW (its.take j) : Nat) t)) ∧ (∃ t, m (PySem.Str.ofString "value_bits") = some (.str (RS.tx (BT.bl W N)) t))) ?_ ?_
        · generalize hA2 : A₁.over _ _ = A2
          have H2 : Room A2 10 := by rw [← hA2]; exact Room.over H₁ rfl (Nat.le_of_ble_eq_true rfl) (Nat.le_of_ble_eq_true rfl)
          clear hA2
          (walk_at "mine go")
          (rename Fr _ _ _ _ => kF'); (rename News _ _ _ _ => kN')
          exact Turn.mk' kF' kN' ⟨rfl, by walk_at "mine look", by walk_at "mine look", ⟨_, by walk_at "mine look"⟩, ⟨_, by walk_at "mine look"⟩, _, by walk_at "mine look"⟩
        clear kF kN p1 p2 p3 p4
        rintro h5 tk5 m5 nw5 kF kN ⟨rfl, p1, p2, ⟨tb5, p3⟩, ⟨to5, p4⟩, tv5, p5⟩
        refine seg_cut (h₀ := s.heap) (L := L') (fun m nw => nw = (I, oI4) :: restOf s₀.heap s.heap L' ∧ MR m (PySem.Str.ofString "self") c ∧ MR m (PySem.Str.ofString "info") x ∧ (∃ t, m (PySem.Str.ofString "bits") = some (.str (RS.tx (BT.bl (totW its) (catN its Ns 0))) t)) ∧ (∃ t, m (PySem.Str.ofString "offset") = some (.int (totW (its.take j) : Nat) t)) ∧ (∃ t, m (PySem.Str.ofString "value_bits") = some (.str (RS.tx (BT.bl W N)) t))) ?_ ?_
        · generalize hA2 : A₁.over _ _ = A2
          have H2 : Room A2 10 := by rw [← hA2]; exact Room.over H₁ rfl (Nat.le_of_ble_eq_true rfl) (Nat.le_of_ble_eq_true rfl)
          clear hA2
          (walk_at "mine go")
          (rename Fr _ _ _ _ => kF'); (rename News _ _ _ _ => kN')
          exact Turn.mk' kF' kN' ⟨rfl, by walk_at "mine look", by walk_at "mine look", ⟨_, by walk_at "mine look"⟩, ⟨_, by walk_at "mine look"⟩, _, by walk_at "mine look"⟩
        clear kF kN p1 p2 p3 p4 p5
        rintro h5 tk5 m5 nw5 kF kN ⟨rfl, p1, p2, ⟨tb5, p3⟩, ⟨to5, p4⟩, tv5, p5⟩
        refine seg_execs_cons (seg_Expr_Yield rfl rfl rfl ?_)
        generalize hA2 : A₁.over _ _ = A2
        have H2 : Room A2 10 := by rw [← hA2]; exact Room.over H₁ rfl (Nat.le_of_ble_eq_true rfl) (Nat.le_of_ble_eq_true rfl)
        clear hA2
        (refine wpAny_mono (E := fun _ _ => False) ?_ (fun _ _ y => y) fun _ _ y => y.elim)
        (walk_at "mine go")
        (rename Fr _ _ _ _ => kF'); (rename News _ _ _ _ => kN')
        rename_i kap9 hkap
        have ei : its.length - 1 - (its.length - (j + 1)) = j := by omega
        refine ⟨⟨_, _, ⟨.u, W⟩, N, _, _, by rw [ei]; exact hitj, by rw [ei]; exact hNj, rfl, (kN' _ (.head _)).1, ⟨_, rfl⟩⟩, ⟨_, _, rfl, rest_keep (pre := [_, (I, oI4)]) kF' hkb kN'⟩, ?_⟩
        intro s3 q1 q2 q3
        refine hkap .none s3 ?_
        dsimp only
        have F6 : Fr s.heap L' s3.heap m5 := ⟨kF'.ns.at' q2, q1, hab⟩
        have N6 : News s.heap L' s3.heap ((I, oI4) :: restOf s3.heap s.heap L') := fun p hp => by
          rcases List.mem_cons.mp hp with rfl | hp
          · have := kN' _ (.tail _ (.head _))
            exact ⟨q3 _ _ (isIt_of hcI4 hdI4) this.1, this.2⟩
          · exact rest_news p hp
        clear kF' kN' q2 q3 hkap
        refine seg_execs_nil ?_
        refine seg_cut (h₀ := s.heap) (L := L') (fun m nw => nw = (I, oI4) :: restOf s3.heap s.heap L' ∧ MR m (PySem.Str.ofString "self") c ∧ (∃ t, m (PySem.Str.ofString "bits") = some (.str (RS.tx (BT.bl (totW its) (catN its Ns 0))) t)) ∧ (∃ t, m (PySem.Str.ofString "offset") = some (.int (((totW (its.take j) : Nat) : Int) + (W : Int)) t))) ?_ ?_
        · generalize hA2 : A₁.over _ _ = A2
          have H2 : Room A2 10 := by rw [← hA2]; exact Room.over H₁ rfl (Nat.le_of_ble_eq_true rfl) (Nat.le_of_ble_eq_true rfl)
          clear hA2
          (walk_at "mine go")
          (rename Fr _ _ _ _ => kF'); (rename News _ _ _ _ => kN')
          exact Turn.mk' kF' kN' ⟨rfl, by walk_at "mine look", ⟨_, by walk_at "mine look"⟩, _, by walk_at "mine look"⟩
        clear F6 N6 p1 p2 p3 p4 p5
        rintro h6 tk6 m6 nw6 kF kN ⟨rfl, p1, ⟨tb6, p3⟩, to6, p4⟩
        refine seg_execs_nil ?_
        rw [hK9]
        refine seg_again rfl ?_
        exact ih s3 _ hlt ⟨h6, tk6, m6, rfl, kF, fun p hp => kN p (.tail _ hp), q1, ⟨oI4, (kN _ (.head _)).1, hcI4, hdI4⟩, p1, ⟨_, p3⟩, _, by rw [p4, htk]; exact congrArg some (val_int (by omega))⟩
      | s =>
        obtain ⟨a1, t1, u1, a2, t2, a3, t3, u3, a4, t4, u4, a5, t5, u5, rfl⟩ := Jx
        refine seg_cut (h₀ := s.heap) (L := L') (fun m nw => nw = (I, oI4) :: restOf s₀.heap s.heap L' ∧ MR m (PySem.Str.ofString "self") c ∧ MR m (PySem.Str.ofString "info") x ∧ (∃ t, m (PySem.Str.ofString "bits") = some (.str (RS.tx (BT.bl (totW its) (catN its Ns 0))) t)) ∧ (∃ t, m (PySem.Str.ofString "offset") = some (.int (totW (its.take j) : Nat) t))) ?_ ?_
        · generalize hA2 : A₁.over _ _ = A2
          have H2 : Room A2 10 := by rw [← hA2]; exact Room.over H₁ rfl (Nat.le_of_ble_eq_true rfl) (Nat.le_of_ble_eq_true rfl)
          clear hA2
          (walk_at "mine go")
          (rename Fr _ _ _ _ => kF'); (rename News _ _ _ _ => kN')
          exact Turn.mk' kF' kN' ⟨rfl, by walk_at "mine look", by walk_at "mine look", ⟨_, by walk_at "mine look"⟩, _, by walk_at "mine look"⟩
        clear kF kN
        rintro h5 tk5 m5 nw5 kF kN ⟨rfl, p1, p2, ⟨tb5, p3⟩, to5, p4⟩
        refine seg_execs_cons (seg_if_false (h₀ := s.heap) (L := L') (fun m nw => nw = (I, oI4) :: restOf s₀.heap s.heap L' ∧ MR m (PySem.Str.ofString "self") c ∧ MR m (PySem.Str.ofString "info") x ∧ (∃ t, m (PySem.Str.ofString "bits") = some (.str (RS.tx (BT.bl (totW its) (catN its Ns 0))) t)) ∧ (∃ t, m (PySem.Str.ofString "offset") = some (.int (totW (its.take j) : Nat) t))) ?_ ?_)
        · generalize hA2 : A₁.over _ _ = A2
          have H2 : Room A2 10 := by rw [← hA2]; exact Room.over H₁ rfl (Nat.le_of_ble_eq_true rfl) (Nat.le_of_ble_eq_true rfl)
          clear hA2
          (walk_at "mine go")
          (rename Fr _ _ _ _ => kF'); (rename News _ _ _ _ => kN')
          exact Turn.mk' kF' kN' ⟨rfl, by walk_at "mine look", by walk_at "mine look", ⟨_, by walk_at "mine look"⟩, _, by walk_at "mine look"⟩
        clear kF kN p1 p2 p3 p4
        rintro h5 tk5 m5 nw5 kF kN ⟨rfl, p1, p2, ⟨tb5, p3⟩, to5, p4⟩
        refine seg_cut (h₀ := s.heap) (L := L') (fun m nw => nw = (I, oI4) :: restOf s₀.heap s.heap L' ∧ MR m (PySem.Str.ofString "self") c ∧ MR m (PySem.Str.ofString "info") x ∧ (∃ t, m (PySem.Str.ofString "bits") = some (.str (RS.tx (BT.bl (totW its) (catN its Ns 0))) t)) ∧ (∃ t, m (PySem.Str.ofString "offset") = some (.int (totW (its.take j) : Nat) t)) ∧ (∃ t, m (PySem.Str.ofString "value_bits") = some (.str (RS.tx (BT.bl W N)) t))) ?_ ?_
        · generalize hA2 : A₁.over _ _ = A2
          have H2 : Room A2 10 := by rw [← hA2]; exact Room.over H₁ rfl (Nat.le_of_ble_eq_true rfl) (Nat.le_of_ble_eq_true rfl)
          clear hA2
          (walk_at "mine go")
          (rename Fr _ _ _ _ => kF'); (rename News _ _ _ _ => kN')
          exact Turn.mk' kF' kN' ⟨rfl, by walk_at "mine look", by walk_at "mine look", ⟨_, by walk_at "mine look"⟩, ⟨_, by walk_at "mine look"⟩, _, by walk_at "mine look"⟩
        clear kF kN p1 p2 p3 p4
        rintro h5 tk5 m5 nw5 kF kN ⟨rfl, p1, p2, ⟨tb5, p3⟩, ⟨to5, p4⟩, tv5, p5⟩
        refine seg_cut (h₀ := s.heap) (L := L') (fun m nw => nw = (I, oI4) :: restOf s₀.heap s.heap L' ∧ MR m (PySem.Str.ofString "self") c ∧ MR m (PySem.Str.ofString "info") x ∧ (∃ t, m (PySem.Str.ofString "bits") = some (.str (RS.tx (BT.bl (totW its) (catN its Ns 0))) t)) ∧ (∃ t, m (PySem.Str.ofString "offset") = some (.int (totW (its.take j) : Nat) t)) ∧ (∃ t, m (PySem.Str.ofString "value_bits") = some (.str (RS.tx (BT.bl W N)) t))) ?_ ?_
        · generalize hA2 : A₁.over _ _ = A2
          have H2 : Room A2 10 := by rw [← hA2]; exact Room.over H₁ rfl (Nat.le_of_ble_eq_true rfl) (Nat.le_of_ble_eq_true rfl)
          clear hA2
          (walk_at "mine go")
          (rename Fr _ _ _ _ => kF'); (rename News _ _ _ _ => kN')
          exact Turn.mk' kF' kN' ⟨rfl, by walk_at "mine look", by walk_at "mine look", ⟨_, by walk_at "mine look"⟩, ⟨_, by walk_at "mine look"⟩, _, by walk_at "mine look"⟩
        clear kF kN p1 p2 p3 p4 p5
        rintro h5 tk5 m5 nw5 kF kN ⟨rfl, p1, p2, ⟨tb5, p3⟩, ⟨to5, p4⟩, tv5, p5⟩
        refine seg_execs_cons (seg_Expr_Yield rfl rfl rfl ?_)
        generalize hA2 : A₁.over _ _ = A2
        have H2 : Room A2 10 := by rw [← hA2]; exact Room.over H₁ rfl (Nat.le_of_ble_eq_true rfl) (Nat.le_of_ble_eq_true rfl)
        clear hA2
        (refine wpAny_mono (E := fun _ _ => False) ?_ (fun _ _ y => y) fun _ _ y => y.elim)
        (walk_at "mine go")
        (rename Fr _ _ _ _ => kF'); (rename News _ _ _ _ => kN')
        rename_i kap9 hkap
        have ei : its.length - 1 - (its.length - (j + 1)) = j := by omega
        refine ⟨⟨_, _, ⟨.s, W⟩, N, _, _, by rw [ei]; exact hitj, by rw [ei]; exact hNj, rfl, (kN' _ (.head _)).1, ⟨_, rfl⟩⟩, ⟨_, _, rfl, rest_keep (pre := [_, (I, oI4)]) kF' hkb kN'⟩, ?_⟩
        intro s3 q1 q2 q3
        refine hkap .none s3 ?_
        dsimp only
        have F6 : Fr s.heap L' s3.heap m5 := ⟨kF'.ns.at' q2, q1, hab⟩
        have N6 : News s.heap L' s3.heap ((I, oI4) :: restOf s3.heap s.heap L') := fun p hp => by
          rcases List.mem_cons.mp hp with rfl | hp
          · have := kN' _ (.tail _ (.head _))
            exact ⟨q3 _ _ (isIt_of hcI4 hdI4) this.1, this.2⟩
          · exact rest_news p hp
        clear kF' kN' q2 q3 hkap
        refine seg_execs_nil ?_
        refine seg_cut (h₀ := s.heap) (L := L') (fun m nw => nw = (I, oI4) :: restOf s3.heap s.heap L' ∧ MR m (PySem.Str.ofString "self") c ∧ (∃ t, m (PySem.Str.ofString "bits") = some (.str (RS.tx (BT.bl (totW its) (catN its Ns 0))) t)) ∧ (∃ t, m (PySem.Str.ofString "offset") = some (.int (((totW (its.take j) : Nat) : Int) + (W : Int)) t))) ?_ ?_
        · generalize hA2 : A₁.over _ _ = A2
          have H2 : Room A2 10 := by rw [← hA2]; exact Room.over H₁ rfl (Nat.le_of_ble_eq_true rfl) (Nat.le_of_ble_eq_true rfl)
          clear hA2
          (walk_at "mine go")
          (rename Fr _ _ _ _ => kF'); (rename News _ _ _ _ => kN')
          exact Turn.mk' kF' kN' ⟨rfl, by walk_at "mine look", ⟨_, by walk_at "mine look"⟩, _, by walk_at "mine look"⟩
        clear F6 N6 p1 p2 p3 p4 p5
        rintro h6 tk6 m6 nw6 kF kN ⟨rfl, p1, ⟨tb6, p3⟩, to6, p4⟩
        refine seg_execs_nil ?_
        rw [hK9]
        refine seg_again rfl ?_
        exact ih s3 _ hlt ⟨h6, tk6, m6, rfl, kF, fun p hp => kN p (.tail _ hp), q1, ⟨oI4, (kN _ (.head _)).1, hcI4, hdI4⟩, p1, ⟨_, p3⟩, _, by rw [p4, htk]; exact congrArg some (val_int (by omega))⟩
      | b =>
        obtain ⟨a1, t1, u1, a2, t2, a3, t3, u3, a4, t4, u4, rfl⟩ := Jx
        refine seg_cut (h₀ := s.heap) (L := L') (fun m nw => nw = (I, oI4) :: restOf s₀.heap s.heap L' ∧ MR m (PySem.Str.ofString "self") c ∧ MR m (PySem.Str.ofString "info") x ∧ (∃ t, m (PySem.Str.ofString "bits") = some (.str (RS.tx (BT.bl (totW its) (catN its Ns 0))) t)) ∧ (∃ t, m (PySem.Str.ofString "offset") = some (.int (totW (its.take j) : Nat) t))) ?_ ?_
        · generalize hA2 : A₁.over _ _ = A2
          have H2 : Room A2 10 := by rw [← hA2]; exact Room.over H₁ rfl (Nat.le_of_ble_eq_true rfl) (Nat.le_of_ble_eq_true rfl)
          clear hA2
          (walk_at "mine go")
          (rename Fr _ _ _ _ => kF'); (rename News _ _ _ _ => kN')
          exact Turn.mk' kF' kN' ⟨rfl, by walk_at "mine look", by walk_at "mine look", ⟨_, by walk_at "mine look"⟩, _, by walk_at "mine look"⟩
        clear kF kN
        rintro h5 tk5 m5 nw5 kF kN ⟨rfl, p1, p2, ⟨tb5, p3⟩, to5, p4⟩
        refine seg_execs_cons (seg_if_false (h₀ := s.heap) (L := L') (fun m nw => nw = (I, oI4) :: restOf s₀.heap s.heap L' ∧ MR m (PySem.Str.ofString "self") c ∧ MR m (PySem.Str.ofString "info") x ∧ (∃ t, m (PySem.Str.ofString "bits") = some (.str (RS.tx (BT.bl (totW its) (catN its Ns 0))) t)) ∧ (∃ t, m (PySem.Str.ofString "offset") = some (.int (totW (its.take j) : Nat) t))) ?_ ?_)
        · generalize hA2 : A₁.over _ _ = A2
          have H2 : Room A2 10 := by rw [← hA2]; exact Room.over H₁ rfl (Nat.le_of_ble_eq_true rfl) (Nat.le_of_ble_eq_true rfl)
          clear hA2
          (walk_at "mine go")
          (rename Fr _ _ _ _ => kF'); (rename News _ _ _ _ => kN')
          exact Turn.mk' kF' kN' ⟨rfl, by walk_at "mine look", by walk_at "mine look", ⟨_, by walk_at "mine look"⟩, _, by walk_at "mine look"⟩
        clear kF kN p1 p2 p3 p4
        rintro h5 tk5 m5 nw5 kF kN ⟨rfl, p1, p2, ⟨tb5, p3⟩, to5, p4⟩
        refine seg_cut (h₀ := s.heap) (L := L') (fun m nw => nw = (I, oI4) :: restOf s₀.heap s.heap L' ∧ MR m (PySem.Str.ofString "self") c ∧ MR m (PySem.Str.ofString "info") x ∧ (∃ t, m (PySem.Str.ofString "bits") = some (.str (RS.tx (BT.bl (totW its) (catN its Ns 0))) t)) ∧ (∃ t, m (PySem.Str.ofString "offset") = some (.int (totW (its.take j) : Nat) t)) ∧ (∃ t, m (PySem.Str.ofString "value_bits") = some (.str (RS.tx (BT.bl W N)) t))) ?_ ?_
        · generalize hA2 : A₁.over _ _ = A2
          have H2 : Room A2 10 := by rw [← hA2]; exact Room.over H₁ rfl (Nat.le_of_ble_eq_true rfl) (Nat.le_of_ble_eq_true rfl)
          clear hA2
          (walk_at "mine go")
          (rename Fr _ _ _ _ => kF'); (rename News _ _ _ _ => kN')
          exact Turn.mk' kF' kN' ⟨rfl, by walk_at "mine look", by walk_at "mine look", ⟨_, by walk_at "mine look"⟩, ⟨_, by walk_at "mine look"⟩, _, by walk_at "mine look"⟩
        clear kF kN p1 p2 p3 p4
        rintro h5 tk5 m5 nw5 kF kN ⟨rfl, p1, p2, ⟨tb5, p3⟩, ⟨to5, p4⟩, tv5, p5⟩
        refine seg_cut (h₀ := s.heap) (L := L') (fun m nw => nw = (I, oI4) :: restOf s₀.heap s.heap L' ∧ MR m (PySem.Str.ofString "self") c ∧ MR m (PySem.Str.ofString "info") x ∧ (∃ t, m (PySem.Str.ofString "bits") = some (.str (RS.tx (BT.bl (totW its) (catN its Ns 0))) t)) ∧ (∃ t, m (PySem.Str.ofString "offset") = some (.int (totW (its.take j) : Nat) t)) ∧ (∃ t, m (PySem.Str.ofString "value_bits") = some (.str (RS.tx (BT.bl W N)) t))) ?_ ?_
        · generalize hA2 : A₁.over _ _ = A2
          have H2 : Room A2 10 := by rw [← hA2]; exact Room.over H₁ rfl (Nat.le_of_ble_eq_true rfl) (Nat.le_of_ble_eq_true rfl)
          clear hA2
          (walk_at "mine go")
          (rename Fr _ _ _ _ => kF'); (rename News _ _ _ _ => kN')
          exact Turn.mk' kF' kN' ⟨rfl, by walk_at "mine look", by walk_at "mine look", ⟨_, by walk_at "mine look"⟩, ⟨_, by walk_at "mine look"⟩, _, by walk_at "mine look"⟩
        clear kF kN p1 p2 p3 p4 p5
        rintro h5 tk5 m5 nw5 kF kN ⟨rfl, p1, p2, ⟨tb5, p3⟩, ⟨to5, p4⟩, tv5, p5⟩
        refine seg_execs_cons (seg_Expr_Yield rfl rfl rfl ?_)
        generalize hA2 : A₁.over _ _ = A2
        have H2 : Room A2 10 := by rw [← hA2]; exact Room.over H₁ rfl (Nat.le_of_ble_eq_true rfl) (Nat.le_of_ble_eq_true rfl)
        clear hA2
        (refine wpAny_mono (E := fun _ _ => False) ?_ (fun _ _ y => y) fun _ _ y => y.elim)
        (walk_at "mine go")
        (rename Fr _ _ _ _ => kF'); (rename News _ _ _ _ => kN')
        rename_i kap9 hkap
        have ei : its.length - 1 - (its.length - (j + 1)) = j := by omega
        refine ⟨⟨_, _, ⟨.b, W⟩, N, _, _, by rw [ei]; exact hitj, by rw [ei]; exact hNj, rfl, (kN' _ (.head _)).1, rfl⟩, ⟨_, _, rfl, rest_keep (pre := [_, (I, oI4)]) kF' hkb kN'⟩, ?_⟩
        intro s3 q1 q2 q3
        refine hkap .none s3 ?_
        dsimp only
        have F6 : Fr s.heap L' s3.heap m5 := ⟨kF'.ns.at' q2, q1, hab⟩
        have N6 : News s.heap L' s3.heap ((I, oI4) :: restOf s3.heap s.heap L') := fun p hp => by
          rcases List.mem_cons.mp hp with rfl | hp
          · have := kN' _ (.tail _ (.head _))
            exact ⟨q3 _ _ (isIt_of hcI4 hdI4) this.1, this.2⟩
          · exact rest_news p hp
        clear kF' kN' q2 q3 hkap
        refine seg_execs_nil ?_
        refine seg_cut (h₀ := s.heap) (L := L') (fun m nw => nw = (I, oI4) :: restOf s3.heap s.heap L' ∧ MR m (PySem.Str.ofString "self") c ∧ (∃ t, m (PySem.Str.ofString "bits") = some (.str (RS.tx (BT.bl (totW its) (catN its Ns 0))) t)) ∧ (∃ t, m (PySem.Str.ofString "offset") = some (.int (((totW (its.take j) : Nat) : Int) + (W : Int)) t))) ?_ ?_
        · generalize hA2 : A₁.over _ _ = A2
          have H2 : Room A2 10 := by rw [← hA2]; exact Room.over H₁ rfl (Nat.le_of_ble_eq_true rfl) (Nat.le_of_ble_eq_true rfl)
          clear hA2
          (walk_at "mine go")
          (rename Fr _ _ _ _ => kF'); (rename News _ _ _ _ => kN')
          exact Turn.mk' kF' kN' ⟨rfl, by walk_at "mine look", ⟨_, by walk_at "mine look"⟩, _, by walk_at "mine look"⟩
        clear F6 N6 p1 p2 p3 p4 p5
        rintro h6 tk6 m6 nw6 kF kN ⟨rfl, p1, ⟨tb6, p3⟩, to6, p4⟩
        refine seg_execs_nil ?_
        rw [hK9]
        refine seg_again rfl ?_
        exact ih s3 _ hlt ⟨h6, tk6, m6, rfl, kF, fun p hp => kN p (.tail _ hp), q1, ⟨oI4, (kN _ (.head _)).1, hcI4, hdI4⟩, p1, ⟨_, p3⟩, _, by rw [p4, htk]; exact congrArg some (val_int (by omega))⟩
      | r =>
        obtain ⟨a1, t1, u1, a2, t2, a3, t3, u3, rfl⟩ := Jx
        refine seg_cut (h₀ := s.heap) (L := L') (fun m nw => nw = (I, oI4) :: restOf s₀.heap s.heap L' ∧ MR m (PySem.Str.ofString "self") c ∧ MR m (PySem.Str.ofString "info") x ∧ (∃ t, m (PySem.Str.ofString "bits") = some (.str (RS.tx (BT.bl (totW its) (catN its Ns 0))) t)) ∧ (∃ t, m (PySem.Str.ofString "offset") = some (.int (totW (its.take j) : Nat) t))) ?_ ?_
        · generalize hA2 : A₁.over _ _ = A2
          have H2 : Room A2 10 := by rw [← hA2]; exact Room.over H₁ rfl (Nat.le_of_ble_eq_true rfl) (Nat.le_of_ble_eq_true rfl)
          clear hA2
          (walk_at "mine go")
          (rename Fr _ _ _ _ => kF'); (rename News _ _ _ _ => kN')
          exact Turn.mk' kF' kN' ⟨rfl, by walk_at "mine look", by walk_at "mine look", ⟨_, by walk_at "mine look"⟩, _, by walk_at "mine look"⟩
        clear kF kN
        rintro h5 tk5 m5 nw5 kF kN ⟨rfl, p1, p2, ⟨tb5, p3⟩, to5, p4⟩
        refine seg_execs_cons (seg_if_false (h₀ := s.heap) (L := L') (fun m nw => nw = (I, oI4) :: restOf s₀.heap s.heap L' ∧ MR m (PySem.Str.ofString "self") c ∧ MR m (PySem.Str.ofString "info") x ∧ (∃ t, m (PySem.Str.ofString "bits") = some (.str (RS.tx (BT.bl (totW its) (catN its Ns 0))) t)) ∧ (∃ t, m (PySem.Str.ofString "offset") = some (.int (totW (its.take j) : Nat) t))) ?_ ?_)
        · generalize hA2 : A₁.over _ _ = A2
          have H2 : Room A2 10 := by rw [← hA2]; exact Room.over H₁ rfl (Nat.le_of_ble_eq_true rfl) (Nat.le_of_ble_eq_true rfl)
          clear hA2
          (walk_at "mine go")
          (rename Fr _ _ _ _ => kF'); (rename News _ _ _ _ => kN')
          exact Turn.mk' kF' kN' ⟨rfl, by walk_at "mine look", by walk_at "mine look", ⟨_, by walk_at "mine look"⟩, _, by walk_at "mine look"⟩
        clear kF kN p1 p2 p3 p4
        rintro h5 tk5 m5 nw5 kF kN ⟨rfl, p1, p2, ⟨tb5, p3⟩, to5, p4⟩
        refine seg_cut (h₀ := s.heap) (L := L') (fun m nw => nw = (I, oI4) :: restOf s₀.heap s.heap L' ∧ MR m (PySem.Str.ofString "self") c ∧ MR m (PySem.Str.ofString "info") x ∧ (∃ t, m (PySem.Str.ofString "bits") = some (.str (RS.tx (BT.bl (totW its) (catN its Ns 0))) t)) ∧ (∃ t, m (PySem.Str.ofString "offset") = some (.int (totW (its.take j) : Nat) t)) ∧ (∃ t, m (PySem.Str.ofString "value_bits") = some (.str (RS.tx (BT.bl W N)) t))) ?_ ?_
        · generalize hA2 : A₁.over _ _ = A2
          have H2 : Room A2 10 := by rw [← hA2]; exact Room.over H₁ rfl (Nat.le_of_ble_eq_true rfl) (Nat.le_of_ble_eq_true rfl)
          clear hA2
          (walk_at "mine go")
          (rename Fr _ _ _ _ => kF'); (rename News _ _ _ _ => kN')
          exact Turn.mk' kF' kN' ⟨rfl, by walk_at "mine look", by walk_at "mine look", ⟨_, by walk_at "mine look"⟩, ⟨_, by walk_at "mine look"⟩, _, by walk_at "mine look"⟩
        clear kF kN p1 p2 p3 p4
        rintro h5 tk5 m5 nw5 kF kN ⟨rfl, p1, p2, ⟨tb5, p3⟩, ⟨to5, p4⟩, tv5, p5⟩
        refine seg_cut (h₀ := s.heap) (L := L') (fun m nw => nw = (I, oI4) :: restOf s₀.heap s.heap L' ∧ MR m (PySem.Str.ofString "self") c ∧ MR m (PySem.Str.ofString "info") x ∧ (∃ t, m (PySem.Str.ofString "bits") = some (.str (RS.tx (BT.bl (totW its) (catN its Ns 0))) t)) ∧ (∃ t, m (PySem.Str.ofString "offset") = some (.int (totW (its.take j) : Nat) t)) ∧ (∃ t, m (PySem.Str.ofString "value_bits") = some (.str (RS.tx (BT.bl W N)) t))) ?_ ?_
        · generalize hA2 : A₁.over _ _ = A2
          have H2 : Room A2 10 := by rw [← hA2]; exact Room.over H₁ rfl (Nat.le_of_ble_eq_true rfl) (Nat.le_of_ble_eq_true rfl)
          clear hA2
          (walk_at "mine go")
          (rename Fr _ _ _ _ => kF'); (rename News _ _ _ _ => kN')
          exact Turn.mk' kF' kN' ⟨rfl, by walk_at "mine look", by walk_at "mine look", ⟨_, by walk_at "mine look"⟩, ⟨_, by walk_at "mine look"⟩, _, by walk_at "mine look"⟩
        clear kF kN p1 p2 p3 p4 p5
        rintro h5 tk5 m5 nw5 kF kN ⟨rfl, p1, p2, ⟨tb5, p3⟩, ⟨to5, p4⟩, tv5, p5⟩
        refine seg_execs_cons (seg_Expr_Yield rfl rfl rfl ?_)
        generalize hA2 : A₁.over _ _ = A2
        have H2 : Room A2 10 := by rw [← hA2]; exact Room.over H₁ rfl (Nat.le_of_ble_eq_true rfl) (Nat.le_of_ble_eq_true rfl)
        clear hA2
        (refine wpAny_mono (E := fun _ _ => False) ?_ (fun _ _ y => y) fun _ _ y => y.elim)
        (walk_at "mine go")
        (rename Fr _ _ _ _ => kF'); (rename News _ _ _ _ => kN')
        rename_i kap9 hkap
        have ei : its.length - 1 - (its.length - (j + 1)) = j := by omega
        refine ⟨⟨_, _, ⟨.r, W⟩, N, _, _, by rw [ei]; exact hitj, by rw [ei]; exact hNj, rfl, (kN' _ (.head _)).1, ⟨_, rfl⟩⟩, ⟨_, _, rfl, rest_keep (pre := [_, (I, oI4)]) kF' hkb kN'⟩, ?_⟩
        intro s3 q1 q2 q3
        refine hkap .none s3 ?_
        dsimp only
        have F6 : Fr s.heap L' s3.heap m5 := ⟨kF'.ns.at' q2, q1, hab⟩
        have N6 : News s.heap L' s3.heap ((I, oI4) :: restOf s3.heap s.heap L') := fun p hp => by
          rcases List.mem_cons.mp hp with rfl | hp
          · have := kN' _ (.tail _ (.head _))
            exact ⟨q3 _ _ (isIt_of hcI4 hdI4) this.1, this.2⟩
          · exact rest_news p hp
        clear kF' kN' q2 q3 hkap
        refine seg_execs_nil ?_
        refine seg_cut (h₀ := s.heap) (L := L') (fun m nw => nw = (I, oI4) :: restOf s3.heap s.heap L' ∧ MR m (PySem.Str.ofString "self") c ∧ (∃ t, m (PySem.Str.ofString "bits") = some (.str (RS.tx (BT.bl (totW its) (catN its Ns 0))) t)) ∧ (∃ t, m (PySem.Str.ofString "offset") = some (.int (((totW (its.take j) : Nat) : Int) + (W : Int)) t))) ?_ ?_
        · generalize hA2 : A₁.over _ _ = A2
          have H2 : Room A2 10 := by rw [← hA2]; exact Room.over H₁ rfl (Nat.le_of_ble_eq_true rfl) (Nat.le_of_ble_eq_true rfl)
          clear hA2
          (walk_at "mine go")
          (rename Fr _ _ _ _ => kF'); (rename News _ _ _ _ => kN')
          exact Turn.mk' kF' kN' ⟨rfl, by walk_at "mine look", ⟨_, by walk_at "mine look"⟩, _, by walk_at "mine look"⟩
        clear F6 N6 p1 p2 p3 p4 p5
        rintro h6 tk6 m6 nw6 kF kN ⟨rfl, p1, ⟨tb6, p3⟩, to6, p4⟩
        refine seg_execs_nil ?_
        rw [hK9]
        refine seg_again rfl ?_
        exact ih s3 _ hlt ⟨h6, tk6, m6, rfl, kF, fun p hp => kN p (.tail _ hp), q1, ⟨oI4, (kN _ (.head _)).1, hcI4, hdI4⟩, p1, ⟨_, p3⟩, _, by rw [p4, htk]; exact congrArg some (val_int (by omega))⟩
      | t => rcases hk2 with h | h | h | h <;> cases h
      | p => rcases hk2 with h | h | h | h <;> cases h
      | q => rcases hk2 with h | h | h | h <;> cases h
    · -- end of the loop
      have hj0 : its.length - j = 0 := by omega
      rw [hj0]
      have hnone : (xs.map Value.ref).toArray[j]? = none := by
        rw [List.getElem?_toArray]
        exact List.getElem?_eq_none (by rw [List.length_map, Xc.1]; exact hge)
      refine wpAny_pyNext_list_end H2.hh hit Ll hnone fun h4 he => ?_
      refine seg_leaf (.ok .next) (seg_end (.ok (.ret .none)) ⟨rfl, rfl, h4, tk, rfl, ?_⟩)
      have hk1 : GKeep s.heap L' s₀.heap h := rest_keep (pre := []) F2 hkb N2
      intro y o h1 h2 e
      have h3 := hk1 y o h1 h2 e
      refine he y o (fun q => ?_) h3
      have q : y = I := q
      subst q
      cases hz : s.heap.get? y with
      | some o' => rw [hI0] at hz; cases hz
      | none =>
        rw [hoI] at h3; cases h3
        have := h2 hz
        rw [isIt_of hcI hdI] at this; cases this
end
-- L4
section
theorem Room.in1 {A : Around} {n : Nat} (H : Room A (n + 1)) : Room A.in1 n :=
  ⟨H.hh, by
    have := H.hd
    show A.depth + _ < _
    omega, by
    have := H.hu
    show A.units + 1 + _ < _
    omega⟩
/-- a generator of the row its / Ns stands, fresh, at a; its number is g, its frame Lg, its base hb -/
structure GenFresh (w : World) (its : List Item) (Ns : List Nat) (hb : Heap) (Lg : Addr) (a : Addr) (g : Nat) (gs : GenState) (s : Shared) : Prop where
  is : s.heap.IsGen a g
  st : s.gens[g]? = some gs
  keep : ∀ b o, hb.get? b = some o → s.heap.get? b = some o
  ha : hb.get? a = none
  hL : hb.get? Lg = none
  ne : a ≠ Lg
  lt : Lg < s.heap.objs.size
  go : ∀ A₁, Room A₁ 12 → ∀ s'' : Shared, (∀ b o, hb.get? b = some o → s''.heap.get? b = some o) → (∀ o, s.heap.get? Lg = some o → s''.heap.get? Lg = some o) →
        gs.Goes (model PySem.Challenge.pw_bk5003_01 w) A₁ (fun n s₀ r s₁ => r = .ok (.ret .none) ∧ Gr hb Lg n s₀ s₁) (Gy its Ns hb Lg) its.length (.send .none) s''
theorem nsobj_not {o : Obj} {m : PySem.Str → Option Value} (h : LCg.NsObj o m) : isIt o = false := by
  obtain ⟨es, ep, hd, _⟩ := h
  unfold isIt
  rw [hd]; exact Bool.and_false _
section
open PyProof.Rows.LCg
variable {w : World} {A : Around} {E : Value → Shared → Prop} {s : Shared} {h₀ : Heap} {L : Addr} {m : PySem.Str → Option Value} {env : Env}
theorem comp_gen {elt iter : Expr} {x : PySem.Str} {px : Pos} {scope : Scope} {cl : List (PySem.Str × Addr)} {pos : Pos} {Q : Value → Shared → Prop} (H : Room A 14) (F₀ : Fr h₀ L s.heap m) (hlim : h₀.NoLimit)
    (hclos : closureFor scope env = pure cl) (hcell : ∀ y ∈ scope.names, y.2 ≠ .cell) (hkind : scope.kind = .function)
    (hnames : ∀ y ∈ scope.names, y.2 = .local → scope.names.lookup y.1 = some .local) (hx : scope.names.lookup x = some .local)
    (h : wpAny (model PySem.Challenge.pw_bk5003_01 w) A (eval iter env) (fun xv s₁ => ∃ a g gs hb Lg its Ns, xv = .ref a ∧ GenFresh w its Ns hb Lg a g gs s₁ ∧ Fr h₀ L hb m ∧ its.length ≤ 100 ∧
      (∀ at' xr val C oC m₂ h tk gn (E' : Value → Shared → Prop), Fr h₀ L h m → News h₀ L h [(C, oC)] → IsTup h at' [xr, val].toArray → NsObj oC m₂ → m₂ x = some (.ref at') →
        wpAny (model PySem.Challenge.pw_bk5003_01 w) A (eval elt (compEnvC scope cl C env)) (fun y s₂ => y = val ∧ ∃ tk', s₂ = { s₁ with heap := h, toks := tk', gens := gn }) E' { s₁ with heap := h, toks := tk, gens := gn }) ∧
      (∀ D h tk gens us, Fr h₀ L h m → (∀ b o, hb.get? b = some o → h.get? b = some o) → h.get? D = some (lst us) → D ≠ L → hb.get? D = none → us.length = its.length → (∀ (j : Nat) (it : Item) (N : Nat) (v : Value), its[j]? = some it → Ns[j]? = some N → us[j]? = some v → UVal it.k it.W N v) →
        gens.size = s₁.gens.size → (∀ i, i ≠ g → gens[i]? = s₁.gens[i]?) → gens[g]? = some .finished → Q (.ref D) { s₁ with heap := h, toks := tk, gens := gens })) E s)
    (hs : ∀ x, foldedSetIterable iter env x = pure x := by intro _; rfl) :
    wpAny (model PySem.Challenge.pw_bk5003_01 w) A (eval (.ListComp elt [⟨.Name x px, iter, [], 0⟩] scope pos) env) Q E s := by
  rw [eval_ListComp]
  refine wpAny_comprehension_free (use := none) rfl hs hclos hkind hnames (wpAny_mono h (fun xv s₁ h₁ => ?_) fun _ _ e => e)
  obtain ⟨a, g, gs, hb, Lg, its, Ns, rfl, G, FB, hn100, hturn, hQ⟩ := h₁
  refine wpAny_pyIter_gen G.is ?_
  refine wpAny_newObj_type (wpAny_newFunctionEnv hcell (by intro y hy; simp at hy) (fun h₁ hns₁ hsb₁ => ?_) hkind)
  dsimp only at hns₁ hsb₁ ⊢
  generalize hH2 : s₁.heap.push { cls := .type "list", dict := none, data := .seq ([] : List Value).toArray } = H2 at hns₁ hsb₁ ⊢
  have hC : H2.objs.size = s₁.heap.objs.size + 1 := by rw [← hH2, Heap.size_push]
  have hDC : s₁.heap.objs.size ≠ H2.objs.size := by rw [hC]; exact Nat.ne_of_lt (Nat.lt_succ_self _)
  have below : ∀ b, b < s₁.heap.objs.size → b ≠ H2.objs.size ∧ b ≠ s₁.heap.objs.size := fun b hb => ⟨by rw [hC]; exact Nat.ne_of_lt (Nat.lt_succ_of_lt hb), Nat.ne_of_lt hb⟩
  have old : ∀ b o, s₁.heap.get? b = some o → h₁.get? b = some o := fun b o e => hsb₁.extBut b o (below b (Heap.lt_size e)).1 (Heap.get?_push_of_some _ (hH2 ▸ Heap.get?_push_of_some _ e))
  have hacc : h₁.get? s₁.heap.objs.size = some (lst []) := hsb₁.extBut _ _ hDC (Heap.get?_push_of_some _ (hH2 ▸ Heap.get?_push_size _ rfl))
  have freshB : ∀ b, s₁.heap.objs.size ≤ b → hb.get? b = none := fun b hbl => by
    cases e : hb.get? b with
    | none => rfl
    | some o => exact absurd (Heap.lt_size (G.keep _ _ e)) (Nat.not_lt.mpr hbl)
  have freshO : ∀ b, hb.get? b = none → h₀.get? b = none := fun b hbn => by
    cases e : h₀.get? b with
    | none => rfl
    | some o => have := FB.keep _ _ e; rw [hbn] at this; cases this
  obtain ⟨oLh, esL, epL, hLb, rL⟩ := id FB.ns
  have hDb := freshB s₁.heap.objs.size (Nat.le_refl _)
  have hCb : hb.get? H2.objs.size = none := freshB _ (by rw [hC]; exact Nat.le_succ _)
  have hDLg : s₁.heap.objs.size ≠ Lg := Ne.symm (below Lg G.lt).2
  have hCLg : H2.objs.size ≠ Lg := Ne.symm (below Lg G.lt).1
  have haD : a ≠ s₁.heap.objs.size := by obtain ⟨o, _, _, ho, _⟩ := G.is; exact (below a (Heap.lt_size ho)).2
  have haC : a ≠ H2.objs.size := by obtain ⟨o, _, _, ho, _⟩ := G.is; exact (below a (Heap.lt_size ho)).1
  have hLlt : L < s₁.heap.objs.size := Heap.lt_size (G.keep _ _ hLb)
  have hDL : s₁.heap.objs.size ≠ L := Ne.symm (below L hLlt).2
  have hCL : H2.objs.size ≠ L := Ne.symm (below L hLlt).1
  generalize hCC : H2.objs.size = C at *
  generalize hDD : s₁.heap.objs.size = D at *
  obtain ⟨n, hn⟩ : ∃ n, n = its.length := ⟨_, rfl⟩
  have loop : ∀ s₃ : Shared, s₃ = { s₁ with heap := h₁, toks := s₁.toks + ([] : List (PySem.Str × Value)).length } →
      codeAny (model PySem.Challenge.pw_bk5003_01 w) A (.compLoop (.ListComp elt [⟨.Name x px, iter, [], 0⟩] scope pos) 0 (.ref a) (.ref D) (compEnvC scope cl C env))
        (compPost (model PySem.Challenge.pw_bk5003_01 w) A E none Q (.ref D) C) s₃ := by
    rintro s₃ rfl
    refine codeAny_compLoop_tests
      (fun k s' => ∃ h tk gens j ys m' gs', s' = { s₁ with heap := h, toks := tk, gens := gens } ∧ j ≤ n ∧ k = n + 1 - j ∧ ys.length = j ∧
        (∀ (i : Nat) (it : Item) (N : Nat) (v : Value), its[i]? = some it → Ns[i]? = some N → ys[i]? = some v → UVal it.k it.W N v) ∧ (∀ b o, hb.get? b = some o → h.get? b = some o) ∧ h.Ns C m' ∧ h.get? D = some (lst ys) ∧ h.IsGen a g ∧
        gens[g]? = some gs' ∧ gens.size = s₁.gens.size ∧ (∀ i, i ≠ g → gens[i]? = s₁.gens[i]?) ∧
        (∀ s'' : Shared, (∀ b o, hb.get? b = some o → s''.heap.get? b = some o) → (∀ o, h.get? Lg = some o → s''.heap.get? Lg = some o) → (∀ b o, isIt o = true → h.get? b = some o → s''.heap.get? b = some o) →
          gs'.Goes (model PySem.Challenge.pw_bk5003_01 w) A.in1 (fun n s₀ r s₁ => r = .ok (.ret .none) ∧ Gr hb Lg n s₀ s₁) (Gy its Ns hb Lg) (n - j) (.send .none) s'')) ?_ (n + 1)
      ⟨h₁, _, s₁.gens, 0, [], _, gs, rfl, Nat.zero_le _, rfl, rfl, (fun i it N v _ _ hv => by cases hv), fun b o e => old _ _ (G.keep _ _ e), hns₁, hacc, G.is.keeps old, G.st, rfl, fun _ _ => rfl, fun s'' q1 q2 _ => by
        rw [hn]
        exact G.go A.in1 (Room.le (Room.in1 H) (by decide)) s'' q1 fun o e => q2 o (old _ _ e)⟩
    rintro k s' ⟨h, tk, gens, j, ys, m', gs', rfl, hj, rfl, hyl, hvals, hbk, hn', hD, hIs, hgs, hgsz, hgo, hgoes⟩
    obtain ⟨oC, heC, hoC⟩ := ns_obj hn'
    have hCnot := nsobj_not hoC
    refine wpAny_pyNext_gen (P := Gr hb Lg) (Y := Gy its Ns hb Lg) (n := n - j) H.hh ((hlim.keeps FB.keep).keeps hbk) (Nat.lt_of_le_of_lt (Nat.le_add_right _ _) H.hd) hIs hgs (hgoes _ hbk (fun _ e => e) (fun _ _ _ e => e)) ?_ ?_
    · rintro v s₂ gs2 ⟨⟨at', xr, it, N, val, nt, hit, hNn, rfl, htup, hu⟩, ⟨h2, tk2, rfl, hk2⟩, hcont⟩
      have hbk2 : ∀ b o, hb.get? b = some o → h2.get? b = some o := fun b o e => hk2 b o (fun q => by rw [q, G.hL] at e; cases e) (fun q => by rw [q] at e; cases e) (hbk b o e)
      rcases Nat.lt_or_ge j n with hlt | hge
      · obtain ⟨d, hd⟩ : ∃ d, n - j = d + 1 := ⟨n - j - 1, by omega⟩
        rw [hd] at hcont hit hNn
        have hidx : its.length - 1 - (d + 1 - 1) = j := by omega
        rw [hidx] at hit hNn
        have e2C : h2.get? C = some oC := hk2 C oC hCLg (fun _ => hCnot) heC
        have e2D : h2.get? D = some (lst ys) := hk2 D _ hDLg (fun _ => rfl) hD
        have hIs2 : h2.IsGen a g := by
          obtain ⟨o, nm, qn, ho, hc, hr⟩ := hIs
          exact ⟨o, nm, qn, hk2 a o G.ne (fun _ => by unfold isIt; rw [hc]; rfl) ho, hc, hr⟩
        show wpAny _ A (assign (.Name x px) (compEnvC scope cl C env) (.ref at')) _ _ _
        refine wpAny_assign_Name (wpAny_storeName_local (lookup_relabel_local hx) (hoC.ns e2C) (fun h₃ hn₃ hs₃ => ?_) (by simp [compEnvC, relabel, hkind]))
        refine wpAny_tests_nil ?_
        simp only [if_true]
        obtain ⟨oC3, heC3, hoC3⟩ := ns_obj hn₃
        have old3 : ∀ b o, b ≠ C → h2.get? b = some o → h₃.get? b = some o := fun b o hbC e => hs₃.extBut b o hbC e
        have hbk3 : ∀ b o, hb.get? b = some o → h₃.get? b = some o := fun b o e => old3 b o (fun q => by rw [q, hCb] at e; cases e) (hbk2 b o e)
        have hat : at' ≠ C := fun q => by
          rw [q] at htup
          have htup : h2.get? C = _ := htup
          rw [e2C] at htup; cases htup
          obtain ⟨_, _, hdd, _⟩ := hoC
          cases hdd
        have F₃ : Fr h₀ L h₃ m := Fr.ext FB hbk3
        have N₃ : News h₀ L h₃ [(C, oC3)] := fun p hp => by
          rw [List.mem_singleton.mp hp]; exact ⟨heC3, hCL, freshO _ hCb⟩
        refine wpAny_mono (hturn at' xr val C oC3 _ h₃ _ _ _ F₃ N₃ ⟨_, old3 _ _ hat htup, rfl, _, rfl⟩ hoC3 (by simp)) (fun y s₄ h₄ => ?_) fun _ _ e => e
        obtain ⟨rfl, tk4, rfl⟩ := h₄
        refine append_at (hsz := by show ys.toArray.size ≤ sizeLine; rw [List.size_toArray, hyl, sizeLine_eq]; omega) (old3 _ _ hDC e2D) fun h₅ hs₅ hD₅ => ?_
        have old5 : ∀ b o, b ≠ C → b ≠ D → h2.get? b = some o → h₅.get? b = some o := fun b o hbC hbD e => hs₅.extBut b o hbD (old3 b o hbC e)
        refine ⟨n + 1 - (j + 1), by omega, h₅, tk4, _, j + 1, ys ++ [y], _, gs2, rfl, hlt, rfl, by rw [List.length_append, List.length_singleton, hyl], ?_, fun b o e => old5 b o (fun q => by rw [q, hCb] at e; cases e) (fun q => by rw [q, hDb] at e; cases e) (hbk2 b o e),
          (hoC3.ns heC3).sameBut hs₅ (Ne.symm hDC), hD₅.trans (congrArg some (lst_snoc ys y)), ?_, setGen_self (gs := .running) (setGen_self hgs), ?_, ?_, ?_⟩
        · intro i it' N' v' h1 h2' h3
          rcases Nat.lt_or_ge i ys.length with hi | hi
          · rw [List.getElem?_append_left hi] at h3; exact hvals i it' N' v' h1 h2' h3
          · rw [List.getElem?_append_right hi] at h3
            have hi0 : i - ys.length = 0 := by
              rcases Nat.eq_zero_or_pos (i - ys.length) with h | h
              · exact h
              · rw [List.getElem?_eq_none (by simp only [List.length_cons, List.length_nil]; omega)] at h3; cases h3
            have hij : i = j := by omega
            rw [hi0] at h3; cases h3
            subst hij
            rw [hit] at h1; cases h1
            rw [hNn] at h2'; cases h2'
            exact hu
        · obtain ⟨o, nm, qn, ho, hr⟩ := hIs2
          exact ⟨o, nm, qn, old5 _ _ haC haD ho, hr⟩
        · show (((gens.setIfInBounds g _).setIfInBounds g _)).size = _
          simp [hgsz]
        · intro i hi
          show (((gens.setIfInBounds g _).setIfInBounds g _))[i]? = _
          simp [Ne.symm hi, hgo i hi]
        · intro s'' q1 q2 q3
          have hnj : n - (j + 1) = d := by omega
          rw [hnj]
          refine hcont s'' q1 (fun o e => q2 o (old5 _ _ (Ne.symm hCLg) (Ne.symm hDLg) e)) (fun b o hi e => q3 b o hi (old5 b o (fun q => ?_) (fun q => ?_) e))
          · rw [q] at e
            have e : h2.get? C = _ := e
            rw [e2C] at e; cases e; rw [hCnot] at hi; cases hi
          · rw [q] at e
            have e : h2.get? D = _ := e
            rw [e2D] at e; cases e; cases hi
      · have h0 : n - j = 0 := by omega
        rw [h0] at hcont
        exact (hcont { s₁ with heap := h2, toks := tk2, gens := gens } hbk2 (fun _ e => e) (fun _ _ _ e => e)).elim
    · rintro s₂ ⟨hn0, h2, tk2, rfl, hk2⟩ h' hk'
      have hjn : j = n := by omega
      subst hjn
      have hk3 : ∀ b o, b ≠ Lg → (hb.get? b = none → isIt o = false) → h.get? b = some o → h'.get? b = some o := fun b o h1 h2 e => hk' b o (hk2 b o h1 h2 e)
      have e2C : h'.get? C = some oC := hk3 C oC hCLg (fun _ => hCnot) heC
      have e2D : h'.get? D = some (lst ys) := hk3 D _ hDLg (fun _ => rfl) hD
      have hbk2 : ∀ b o, hb.get? b = some o → h'.get? b = some o := fun b o e => hk3 b o (fun q => by rw [q, G.hL] at e; cases e) (fun q => by rw [q] at e; cases e) (hbk b o e)
      refine ⟨_, hoC.ns e2C, fun h'' hs'' => ?_⟩
      have hbk4 : ∀ b o, hb.get? b = some o → h''.get? b = some o := fun b o e => hs''.extBut b o (fun q => by rw [q, hCb] at e; cases e) (hbk2 b o e)
      refine hQ D h'' tk2 _ ys (Fr.ext FB hbk4) hbk4 (hs''.extBut _ _ hDC e2D) hDL hDb (by omega) hvals ?_ ?_ (setGen_self (gs := .running) (setGen_self hgs))
      · show (((gens.setIfInBounds g _).setIfInBounds g _)).size = _
        simp [hgsz]
      · intro i hi
        show (((gens.setIfInBounds g _).setIfInBounds g _))[i]? = _
        simp [Ne.symm hi, hgo i hi]
  exact codeAny_compStart_list (loop _ rfl) (wpAny_pyIter_gen (G.is.keeps old) (loop _ rfl))
end
end
-- F18
section
/-- a def's way back where generators have been made and used up -/
def RetG (s : Shared) (P : Value → List (Addr × Obj) → Prop) : Result → Shared → Prop := fun r s' =>
  ∃ v h' tk' gs' own, r = .ok (.ret v) ∧ s' = { s with heap := h', toks := tk', gens := gs' } ∧ Ext s.heap h' ∧ (∀ p ∈ own, h'.get? p.1 = some p.2 ∧ s.heap.get? p.1 = none) ∧ (AllBare s.gens → AllBare gs') ∧ P v own
/-- what unpack hands back -/
def UOut (its : List Item) (Ns : List Nat) (v : Value) (own : List (Addr × Obj)) : Prop :=
  ∃ D us nn, v = .ref D ∧ (D, ({ cls := .type "tuple", data := .seq (List.toArray us) nn } : Obj)) ∈ own ∧ us.length = its.length ∧ ∀ (j : Nat) (it : Item) (N : Nat) (u : Value), its[j]? = some it → Ns[j]? = some N → us[j]? = some u → UVal it.k it.W N u
/-- the row that unpack reads: its octets, its groups, its numbers -/
structure Row (its : List Item) (Ns : List Nat) (bs : List UInt8) : Prop where
  hk : ∀ it ∈ its, it.k = .u ∨ it.k = .s ∨ it.k = .b ∨ it.k = .r
  hl : its.length = Ns.length
  hN : ∀ (j : Nat) (it : Item) (N : Nat), its[j]? = some it → Ns[j]? = some N → N < 2 ^ it.W
  hT : totW its = 8 * bs.length
  hM : BT.fromB bs = catN its Ns 0
  hsz : bs.length ≤ 40
  hL : its.length ≤ 100
theorem bare_fin {a b : Array GenState} {gs : GenState} (ha : AllBare a) (hs : b.size = (a.push gs).size) (ho : ∀ i, i ≠ a.size → b[i]? = (a.push gs)[i]?) (hg : b[a.size]? = some .finished) : AllBare b := by
  intro y hy
  obtain ⟨i, hi, rfl⟩ := Array.mem_iff_getElem.mp hy
  by_cases e : i = a.size
  · subst e
    rw [Array.getElem?_eq_getElem hi] at hg
    rw [Option.some.inj hg]; rfl
  · have h1 := ho i e
    rw [Array.size_push] at hs
    have hlt : i < a.size := by omega
    rw [Array.getElem?_eq_getElem hi, Array.getElem?_push_lt hlt] at h1
    rw [Option.some.inj h1]
    exact ha _ (Array.getElem_mem hlt)
local macro_rules | `(tactic| walk_at "call type:tuple") => `(tactic| k_dflt ((k_here; (with_reducible show wpAny _ _ (call (Value.type _) [Value.ref _]) _ _ _); k_dflt (refine' kde_tupleOf ?k1 ?k2 ?k3 ?k4 ?k5 ?_; (case k1 => k_asm); (case k2 => k_asm); (case k3 => first | exact News.isList (by k_asm) (by k_mem) | assumption); (case k4 => (first | walk_at "mine le" | (simp only [List.size_toArray]; omega))); (case k5 => exact rfl)); intro D' h' F' N' l1; (try k_lt l1); (try k_sweep))))
variable {w : World} {A : Around} {s : Shared}
section
local macro_rules | `(tactic| walk_at "mine go") => `(tactic| repeat' ((fail_if_success (with_reducible show Ret _ _ _ _)); first | (k_unfold; (try dsimp only)) | ((fail_if_success ((with_reducible show wpAny _ _ (call (Value.ref 438) _ _) _ _ _))); (fail_if_success (with_reducible show wpAny _ _ (exec (Stmt.Raise _ _ _) _) _ _ _)); (fail_if_success (with_reducible show wpAny _ _ (exec (Stmt.For _ _ _ _ _) _) _ _ _)); (fail_if_success (with_reducible show wpAny _ _ (exec (Stmt.While _ _ _ _) _) _ _ _)); (fail_if_success (with_reducible show wpAny _ _ (eval (Expr.ListComp _ _ _ _) _) _ _ _)); (fail_if_success (with_reducible show wpAny _ _ (exec (Stmt.Assign _ (Expr.ListComp _ _ _ _) _) _) _ _ _)); (first | walk1 | (dsimp only; walk1))) | fail "stop"))
local macro_rules | `(tactic| walk_at "subscriptTail") => `(tactic| k_dflt ((k_here; (with_reducible show wpAny _ _ (subscriptTail _ _ (Value.ref _) (Value.int _ _)) _ _ _); refine' RT.item_tup ?ht ?h0 ?hf ?hx ?_; (case ht => assumption); (case h0 => decide); (case hf => decide); (case hx => exact rfl))))
theorem unpack_from_spec (B : Bas w s.heap) (H : Room A 16) (its : List Item) (c : Addr) (Ns : List Nat) (bs : List UInt8) (t : Tok) (C : IsCF s.heap c its) (Rw : Row its Ns bs) :
    codeAny (model PySem.Challenge.pw_bk5003_01 w) A (.call (.ref 504) ⟨[.ref c, .bytes bs.toArray t], [(PySem.Str.ofString "allow_truncated", .bool false)]⟩) (RetG s (UOut its Ns)) s := by
  obtain ⟨X, p, loose, mean, mg, mb, T⟩ := B
  (k_dflt (refine' enter (binds := [(PySem.Str.ofString "self", .ref c), (PySem.Str.ofString "data", .bytes bs.toArray t), (PySem.Str.ofString "offset", .int 0 1065), (PySem.Str.ofString "allow_truncated", .bool false)]) ?k1 ?k2 ?k6 ?k7 ?k8 ?k9 ?kB ?_ ?c2 ?c3 ?c4 ?c5; (case k1 => k_asm); (case k2 => exact Top.nolimit (by assumption)); (case k6 => k_is); (case k7 => k_is); (case k8 => first | exact Nat.lt_of_le_of_lt (Nat.le_add_right _ _) (Room.hd (by assumption)) | (have hR9 := Room.hd (by assumption); omega)); (case k9 => first | exact hb9 _ _ _ _ (by k_is) | exact BindsTo.of_eq rfl | exact binds_K (by k_in) rfl (by k_is) rfl rfl rfl); (case c5 => decide); (case kB => exact locs rfl); (case c2 => exact rfl); (case c3 => exact rfl); (case c4 => exact rfl)); intro L' h' F' N'; (try dsimp only); (try k_fold))
  have C0 := C
  obtain ⟨dc, nc, li, xs, b1, y1, b2, y2, z2, b3, y3, z3, b4, y4, z4, Ic, Lc, Xc⟩ := C
  walk_at "mine go"
  (rename Fr _ _ _ _ => kF0)
  refine comp_gen (by walk_at "mine room") kF0 (Top.nolimit (by assumption)) (by with_unfolding_all rfl) (by decide) (by rfl) (by decide) (by rfl) ?_
  walk_at "mine go"
  (rename Fr _ _ _ _ => kF); (rename News _ _ _ _ => kN)
  refine wpAny_call (codeAny_mono (gen_call (by walk_at "mine bas") (by walk_at "mine room") its c Ns bs _ _ (C0.ext kF.keep) Rw.hk Rw.hl Rw.hN Rw.hT Rw.hM Rw.hsz Rw.hL) (fun r s' hg => ?_))
  obtain ⟨a, h1, tk1, gs, Lg, rfl, rfl, hx1, hi1, ha1, hn1, hl1, hl2, hl3, hl4, hgo⟩ := hg
  refine ⟨a, _, gs, _, Lg, its, Ns, rfl, ⟨hi1, by simp, hx1, ha1, hl1, hn1, hl2, hgo⟩, kF, Rw.hL, ?_, ?_⟩
  · intro at' xr val C1 oC m₂ h2 tk2 gn E' F2 N2 ht hC hx
    walk_at "mine go"
  · intro D h2 tk2 gens us F2 hk2 hD hDL hD0 hus hvals hg1 hg2 hg3
    have N2 : News s.heap L' h2 [(D, LCg.lst us)] := fun p hp => by
      rw [List.mem_singleton.mp hp]
      refine ⟨hD, hDL, ?_⟩
      cases e : s.heap.get? D with
      | none => rfl
      | some o => have := kF.keep _ _ e; rw [hD0] at this; cases this
    have hus2 : us.length ≤ 100 := by have := Rw.hL; omega
    clear kN kF
    walk_at "mine go"
    (rename Fr _ _ _ _ => kF); (rename News _ _ _ _ => kN)
    refine ⟨_, _, _, _, [(_, _)], rfl, rfl, Fr.keep kF, (fun p hp => by rw [List.mem_singleton.mp hp]; exact ⟨(kN _ (.head _)).1, (kN _ (.head _)).2.2⟩), (fun hb => bare_fin hb hg1 hg2 hg3), _, us, _, rfl, .head _, hus, hvals⟩
end
end
local macro_rules | `(tactic| walk_at "call type:tuple") => `(tactic| k_dflt ((k_here; (with_reducible show wpAny _ _ (call (Value.type _) [Value.ref _]) _ _ _); k_dflt (refine' kde_tupleOf ?k1 ?k2 ?k3 ?k4 ?k5 ?_; (case k1 => k_asm); (case k2 => k_asm); (case k3 => first | exact News.isList (by k_asm) (by k_mem) | assumption); (case k4 => (first | walk_at "mine le" | (simp only [List.size_toArray]; omega))); (case k5 => exact rfl)); intro D' h' F' N' l1; (try k_lt l1); (try k_sweep))))
-- F19
section
section
variable {prog : Program} {w : World} {A : Around} {s : Shared} {h₀ : Heap} {L : Addr} {m : PySem.Str → Option Value} {news : List (Addr × Obj)}
/-- a call behind which generators stand used up -/
theorem use_specG {f : Value} {pos : List Value} {kw : List (PySem.Str × Value)} {Q : Value → Shared → Prop} {E : Value → Shared → Prop} {P : Value → List (Addr × Obj) → Prop}
    (F : Fr h₀ L s.heap m) (N : News h₀ L s.heap news)
    (h : codeAny (model prog w) A (.call f ⟨pos, kw⟩) (RetG s P) s)
    (k : ∀ v h' tk' gs' own, Fr h₀ L h' m → News h₀ L h' (news ++ own) → PySem.W.OwnOff own (news.map (·.1)) → (AllBare s.gens → AllBare gs') → P v own → Q v { s with heap := h', toks := tk', gens := gs' }) : wpAny (model prog w) A (call f pos kw) Q E s :=
  wpAny_call (codeAny_mono h (fun r s' g => by
    obtain ⟨v, h', tk', gs', own, rfl, rfl, x, y, b, p⟩ := g
    refine k v h' tk' gs' own (Fr.ext F x) (fun q hq => ?_) (fun q hq b hb e => ?_) b p
    · rcases List.mem_append.mp hq with hq | hq
      · exact (News.ext N x) q hq
      · exact ⟨(y q hq).1, fresh_ne F (y q hq).2, fresh_none F (y q hq).2⟩
    · obtain ⟨p, hp, rfl⟩ := List.mem_map.mp hb
      have := (N p hp).1
      rw [← e, (y q hq).2] at this; cases this))
theorem cf_make3 {Q : Value → Shared → Prop} {E : Value → Shared → Prop} {p : Program} {loose : List PySem.Str} {mean : ExcName → Option Value} {mg mb : PySem.Str → Option Value} (F : Fr h₀ L s.heap m) (N : News h₀ L s.heap news) (X₀ : (Mine.hd.heap_39 w.params).In h₀) (T : Top p loose mean mg mb h₀) (H : Room A 13)
    (fs : List Fm) (eb : Bool) (t : Tok) (v4 v5 : Value) (hne : fs ≠ []) (hsz : (SR.txs (fs.map Fm.tk)).length ≤ 500) (hW : ∀ f ∈ fs, 1 ≤ f.it.W ∧ f.it.W ≤ 100)
    (k : ∀ x h' tk' own, Fr h₀ L h' m → News h₀ L h' (news ++ own) → CFIn own x (fs.map (·.it)) → Q (.ref x) { s with heap := h', toks := tk' }) :
    wpAny (model PySem.Challenge.pw_bk5003_01 w) A (call (.ref 507) [.str (RS.tx (fmtL fs ++ if eb then [62] else [])) t, v4, v5] []) Q E s := by
  refine use_clsO (fI := 476) F N X₀ (by k_is) (by k_is) (by k_is) (fun s₁ g x dx kk kp kq kr lt => cf_init_spec (Bas.of X₀ T kk) (Room.under H _ _ _) fs eb t v4 v5 hne hsz hW x dx kp kq lt kr) ?_
  intro x dx h' tk' o own F' N' l1 l2 of' P
  refine k x h' tk' ((x, instObj 507 dx) :: (dx, o) :: own) F' (News.sub N' ?_) (CFIn.of P)
  intro p hp
  rcases List.mem_append.mp hp with hp | hp
  · exact List.mem_append_left _ (.tail _ (.tail _ hp))
  · rcases List.mem_cons.mp hp with rfl | hp
    · exact List.mem_append_left _ (.head _)
    · rcases List.mem_cons.mp hp with rfl | hp
      · exact List.mem_append_left _ (.tail _ (.head _))
      · exact List.mem_append_right _ hp
end
variable {w : World} {A : Around} {s : Shared}
section
local macro_rules | `(tactic| walk_at "mine go") => `(tactic| repeat' ((fail_if_success (with_reducible show Ret _ _ _ _)); first | (k_unfold; (try dsimp only)) | ((fail_if_success ((with_reducible show wpAny _ _ (call (Value.ref 504) _ _) _ _ _))); (fail_if_success (with_reducible show wpAny _ _ (exec (Stmt.Raise _ _ _) _) _ _ _)); (fail_if_success (with_reducible show wpAny _ _ (exec (Stmt.For _ _ _ _ _) _) _ _ _)); (fail_if_success (with_reducible show wpAny _ _ (exec (Stmt.While _ _ _ _) _) _ _ _)); (fail_if_success (with_reducible show wpAny _ _ (eval (Expr.ListComp _ _ _ _) _) _ _ _)); (fail_if_success (with_reducible show wpAny _ _ (exec (Stmt.Assign _ (Expr.ListComp _ _ _ _) _) _) _ _ _)); (first | walk1 | (dsimp only; walk1))) | fail "stop"))
theorem unpack_meth_spec (B : Bas w s.heap) (H : Room A 18) (its : List Item) (c : Addr) (Ns : List Nat) (bs : List UInt8) (t : Tok) (C : IsCF s.heap c its) (Rw : Row its Ns bs) :
    codeAny (model PySem.Challenge.pw_bk5003_01 w) A (.call (.ref 491) ⟨[.ref c, .bytes bs.toArray t], [(PySem.Str.ofString "allow_truncated", .bool false)]⟩) (RetG s (UOut its Ns)) s := by
  obtain ⟨X, p, loose, mean, mg, mb, T⟩ := B
  (k_dflt (refine' enter (binds := [(PySem.Str.ofString "self", .ref c), (PySem.Str.ofString "data", .bytes bs.toArray t), (PySem.Str.ofString "allow_truncated", .bool false)]) ?k1 ?k2 ?k6 ?k7 ?k8 ?k9 ?kB ?_ ?c2 ?c3 ?c4 ?c5; (case k1 => k_asm); (case k2 => exact Top.nolimit (by assumption)); (case k6 => k_is); (case k7 => k_is); (case k8 => first | exact Nat.lt_of_le_of_lt (Nat.le_add_right _ _) (Room.hd (by assumption)) | (have hR9 := Room.hd (by assumption); omega)); (case k9 => first | exact hb9 _ _ _ _ (by k_is) | exact BindsTo.of_eq rfl | exact binds_K (by k_in) rfl (by k_is) rfl rfl rfl); (case c5 => decide); (case kB => exact locs rfl); (case c2 => exact rfl); (case c3 => exact rfl); (case c4 => exact rfl)); intro L' h' F' N'; (try dsimp only); (try k_fold))
  have C0 := C
  obtain ⟨dc, nc, li, xs, b1, y1, b2, y2, z2, b3, y3, z3, b4, y4, z4, Ic, Lc, Xc⟩ := C
  walk_at "mine go"
  (rename Fr _ _ _ _ => kF); (rename News _ _ _ _ => kN)
  refine use_specG kF kN (unpack_from_spec (by walk_at "mine bas") (by walk_at "mine room") its c Ns bs _ (C0.ext kF.keep) Rw) ?_
  intro v h1 tk1 gs1 own F1 N1 _ hb hU
  clear kF kN
  walk_at "mine go"
  exact ⟨_, _, _, _, own, rfl, rfl, Fr.keep F1, (fun p hp => ⟨(N1 p (List.mem_append_right _ hp)).1, (N1 p (List.mem_append_right _ hp)).2.2⟩), hb, hU⟩
end
section
local macro_rules | `(tactic| walk_at "mine go") => `(tactic| repeat' ((fail_if_success (with_reducible show Ret _ _ _ _)); first | (k_unfold; (try dsimp only)) | ((fail_if_success (first | (with_reducible show wpAny _ _ (call (Value.ref 507) _ _) _ _ _) | (with_reducible show wpAny _ _ (call (Value.ref 491) _ _) _ _ _))); (fail_if_success (with_reducible show wpAny _ _ (exec (Stmt.Raise _ _ _) _) _ _ _)); (fail_if_success (with_reducible show wpAny _ _ (exec (Stmt.For _ _ _ _ _) _) _ _ _)); (fail_if_success (with_reducible show wpAny _ _ (exec (Stmt.While _ _ _ _) _) _ _ _)); (fail_if_success (with_reducible show wpAny _ _ (eval (Expr.ListComp _ _ _ _) _) _ _ _)); (fail_if_success (with_reducible show wpAny _ _ (exec (Stmt.Assign _ (Expr.ListComp _ _ _ _) _) _) _ _ _)); (first | walk1 | (dsimp only; walk1))) | fail "stop"))
theorem unpack_spec (B : Bas w s.heap) (H : Room A 20) (fs : List Fm) (eb : Bool) (t u : Tok) (hne : fs ≠ []) (hsz : (SR.txs (fs.map Fm.tk)).length ≤ 500) (hW : ∀ f ∈ fs, 1 ≤ f.it.W ∧ f.it.W ≤ 100) (its : List Item) (hits : its = fs.map (·.it)) (Ns : List Nat) (bs : List UInt8) (Rw : Row its Ns bs) :
    codeAny (model PySem.Challenge.pw_bk5003_01 w) A (.call (.ref 524) ⟨[.str (RS.tx (fmtL fs ++ if eb then [62] else [])) t, .bytes bs.toArray u], []⟩) (RetG s (UOut its Ns)) s := by
  obtain ⟨X, p, loose, mean, mg, mb, T⟩ := B
  (k_dflt (refine' enter (binds := [(PySem.Str.ofString "fmt", .str (RS.tx (fmtL fs ++ if eb then [62] else [])) t), (PySem.Str.ofString "data", .bytes bs.toArray u), (PySem.Str.ofString "allow_truncated", .bool false), (PySem.Str.ofString "text_encoding", .str (PySem.Str.ofString "utf-8") 1087), (PySem.Str.ofString "text_errors", .str (PySem.Str.ofString "strict") 1088)]) ?k1 ?k2 ?k6 ?k7 ?k8 ?k9 ?kB ?_ ?c2 ?c3 ?c4 ?c5; (case k1 => k_asm); (case k2 => exact Top.nolimit (by assumption)); (case k6 => k_is); (case k7 => k_is); (case k8 => first | exact Nat.lt_of_le_of_lt (Nat.le_add_right _ _) (Room.hd (by assumption)) | (have hR9 := Room.hd (by assumption); omega)); (case k9 => first | exact hb9 _ _ _ _ (by k_is) | exact BindsTo.of_eq rfl | exact binds_K (by k_in) rfl (by k_is) rfl rfl rfl); (case c5 => decide); (case kB => exact locs rfl); (case c2 => exact rfl); (case c3 => exact rfl); (case c4 => exact rfl)); intro L' h' F' N'; (try dsimp only); (try k_fold))
  walk_at "mine go"
  (rename Fr _ _ _ _ => kF); (rename News _ _ _ _ => kN)
  refine cf_make3 kF kN X T (by walk_at "mine room") fs eb t _ _ hne hsz hW ?_
  clear kF kN
  intro x h' tk' own F' N' hC
  rw [← hits] at hC
  simp only [List.nil_append] at N'
  have hC0 := hC
  obtain ⟨dx, o, hc1, hc2, li, a1, t1, a2, t2, u2, a3, t3, u3, a4, t4, u4, rfl, hC1⟩ := hC
  replace N' := News.dup (News.dup N' hc2) (.tail _ hc1)
  (try dsimp only)
  (try k_fold)
  walk_at "mine go"
  (rename Fr _ _ _ _ => kF); (rename News _ _ _ _ => kN)
  refine use_specG kF kN (unpack_meth_spec (by walk_at "mine bas") (by walk_at "mine room") its x Ns bs _ (hC0.is fun p hp => (kN p (.tail _ (.tail _ hp))).1) Rw) ?_
  intro v h1 tk1 gs1 own1 F1 N1 _ hb hU
  clear kF kN
  walk_at "mine go"
  exact ⟨_, _, _, _, own1, rfl, rfl, Fr.keep F1, (fun p hp => ⟨(N1 p (List.mem_append_right _ hp)).1, (N1 p (List.mem_append_right _ hp)).2.2⟩), hb, hU⟩
end
end
-- L5
section
namespace CM
open PyProof.Rows.LCg
section
variable {prog : Program} {w : World} {A : Around} {E : Value → Shared → Prop} {s : Shared} {h₀ : Heap} {L : Addr} {m : PySem.Str → Option Value} {env : Env}
abbrev tests (prog : Program) (w : World) (A : Around) (env : Env) (ifs : List Expr) (Q : Bool → Shared → Prop) (s : Shared) : Prop :=
  wpAny (model prog w) A (forIn ifs true fun c r => if r = true then do let ok ← isTrue c env (eval c env); pure (ForInStep.yield ok) else pure (ForInStep.yield r)) Q (fun _ _ => False) s
/-- the turns of a list comprehension, any target, any tests -/
theorem loop_any {elt target iter : Expr} {ifs : List Expr} {scope : Scope} {pos : Pos} {it acc : Value} {env : Env} {R : Result → Shared → Prop} (I : Nat → Shared → Prop)
    (turn : ∀ n s, I n s → wpAny (model prog w) A (pyNext it) (fun r s₁ => match r with
      | none => R (.ok .next) s₁
      | some v => wpAny (model prog w) A (letOwnedTupleGo target it v) (fun _ s₁' => wpAny (model prog w) A (assign target env v) (fun _ s₂ =>
          tests prog w A env ifs (fun ok s₃ => if ok = true then wpAny (model prog w) A (eval elt env) (fun x s₄ =>
              wpAny (model prog w) A (call (.builtin "list.append") [acc, x]) (fun _ s₅ => ∃ m, m < n ∧ I m s₅) (fun _ _ => False) s₄) (fun _ _ => False) s₃ else ∃ m, m < n ∧ I m s₃) s₂)
          (fun _ _ => False) s₁') (fun _ _ => False) s₁) (fun _ _ => False) s)
    (n : Nat) (h : I n s) : codeAny (model prog w) A (.compLoop (.ListComp elt [⟨target, iter, ifs, 0⟩] scope pos) 0 it acc env) R s := by
  refine codeAny_loop rfl I (fun n s hI => ?_) n h
  show wpAny _ A ((compTurn (.ListComp elt [⟨target, iter, ifs, 0⟩] scope pos) 0 it acc env).onRaise (fun x => do noteFrame x env; theTreesLotGoes x)) _ _ s
  refine wpAny_noted ?_
  rw [compTurn_list]
  refine wpAny_bind (wpAny_standAt (wpAny_bind (wpAny_mono (turn n s hI) (fun r s₁ h₁ => ?_) fun _ _ h' => h'.elim)))
  cases r with
  | none => exact wpAny_pure h₁
  | some v =>
    refine wpAny_bind (wpAny_mono h₁ (fun _ s₁' h₁' => ?_) fun _ _ h' => h'.elim)
    refine wpAny_bind (wpAny_mono h₁' (fun _ s₂ h₂ => wpAny_bind (wpAny_mono h₂ (fun ok s₃ h₃ => ?_) fun _ _ h' => h'.elim)) fun _ _ h' => h'.elim)
    cases ok with
    | false => exact wpAny_pure ⟨rfl, h₃⟩
    | true => exact wpAny_bind (wpAny_bind (wpAny_mono h₃ (fun x s₄ h₄ => wpAny_bind (wpAny_mono h₄ (fun _ s₅ h₅ => wpAny_pure (wpAny_pure ⟨rfl, h₅⟩)) fun _ _ h' => h'.elim)) fun _ _ h' => h'.elim))
/-- a turn's end -/
def End (h₀ : Heap) (L : Addr) (m : PySem.Str → Option Value) (I : Addr) (oI : Obj) (C D : Addr) (ys : List Value) (J : List (Addr × Obj) → Prop) (s s' : Shared) : Prop :=
  ∃ h' tk oC m₃ news', s' = { s with heap := h', toks := tk } ∧ Fr h₀ L h' m ∧ News h₀ L h' ((I, oI) :: (C, oC) :: (D, lst ys) :: news') ∧ NsObj oC m₃ ∧ Off3 I C D news' ∧ J news'
theorem End.mk' {I C D : Addr} {oI oC : Obj} {ys : List Value} {J : List (Addr × Obj) → Prop} {s : Shared} {h' : Heap} {tk : Nat} {m₃ : PySem.Str → Option Value} {all news' : List (Addr × Obj)}
    (F : Fr h₀ L h' m) (N : News h₀ L h' all) (hC : NsObj oC m₃) (sub : ∀ p ∈ (I, oI) :: (C, oC) :: (D, lst ys) :: news', p ∈ all) (off : Off3 I C D news') (r : J news') : End h₀ L m I oI C D ys J s { s with heap := h', toks := tk } :=
  ⟨h', tk, oC, m₃, news', rfl, F, fun p hp => N p (sub p hp), hC, off, r⟩
theorem core {elt target iter : Expr} {ifs : List Expr} {scope : Scope} {cl : List (PySem.Str × Addr)} {pos : Pos} {s₂ : Shared} {I : Addr} {fp : List Addr} {n : Nat} {P : Nat → Value → Prop} {St : Nat → Heap → Prop} {news : List (Addr × Obj)} {RR : Value → Addr → Result → Shared → Prop}
    (W : Walks prog w A I fp [I] n P St) (hsz : n ≤ sizeLine) (hIo : ∀ i h, St i h → ∃ o, h.get? I = some o)
    (J : Nat → List Value → List (Addr × Obj) → Prop) (hJl : ∀ i ys nw, J i ys nw → ys.length ≤ i)
    (hfp : ∀ b ∈ fp, b ≠ I → (∃ o, h₀.get? b = some o) ∨ ∃ o, ∀ i ys nw, J i ys nw → (b, o) ∈ nw)
    (hcell : ∀ y ∈ scope.names, y.2 ≠ .cell) (hkind : scope.kind = .function) (hst : St 0 s₂.heap) (hfl : ∀ b ∈ fp, b < s₂.heap.objs.size)
    (F : Fr h₀ L s₂.heap m) (N : News h₀ L s₂.heap news) (hIL : L ≠ I) (hI₀ : h₀.get? I = none) (off : ∀ p ∈ news, p.1 ≠ I)
    (hgo : ∀ i (s' : Shared) v (Q' : Unit → Shared → Prop), St i s'.heap → Q' () s' → wpAny (model prog w) A (letOwnedTupleGo target (.ref I) v) Q' (fun _ _ => False) s')
    (J0 : J 0 [] news)
    (turn : ∀ i v ys nw I oI C oC D m₂ h tk, i < n → P i v → J i ys nw → Fr h₀ L h m → News h₀ L h ((I, oI) :: (C, oC) :: (D, lst ys) :: nw) → NsObj oC m₂ → Off3 I C D nw → ((@Ne Nat I C) ∧ (@Ne Nat I D) ∧ (@Ne Nat C D)) →
      wpAny (model prog w) A (assign target (compEnvC scope cl C env) v) (fun _ s₃ => tests prog w A (compEnvC scope cl C env) ifs (fun ok s₄ => if ok = true then wpAny (model prog w) A (eval elt (compEnvC scope cl C env)) (fun y s₅ => End h₀ L m I oI C D ys (fun nw' => J (i + 1) (ys ++ [y]) nw') s₂ s₅) (fun _ _ => False) s₄
        else End h₀ L m I oI C D ys (fun nw' => J (i + 1) ys nw') s₂ s₄) s₃) (fun _ _ => False) { s₂ with heap := h, toks := tk })
    (hRR : ∀ D C h tk m' ys nw, Fr h₀ L h m → News h₀ L h ((D, lst ys) :: nw) → Off1 D nw → h.Ns C m' → h₀.get? C = none → h₀.get? D = none → C ≠ L → D ≠ L → C ≠ D → (∀ p ∈ nw, p.1 ≠ C) → J n ys nw → RR (.ref D) C (.ok .next) { s₂ with heap := h, toks := tk }) :
    wpAny (model prog w) A (newList []) (fun acc s₃ => wpAny (model prog w) A (newFunctionEnv scope env.globals cl [] env.qual none .none (some env)) (fun cenv s₄ =>
      codeAny (model prog w) A (.compStart (.ListComp elt [⟨target, iter, ifs, 0⟩] scope pos) 0 (.ref I) acc { cenv with scope := relabel scope env }) (RR acc cenv.locals) s₄) E s₃) E s₂ := by
  refine wpAny_newObj_type (wpAny_newFunctionEnv hcell (by intro y hy; simp at hy) (fun h₁ hns₁ hsb₁ => ?_) hkind)
  dsimp only at hns₁ hsb₁ ⊢
  generalize hH2 : s₂.heap.push { cls := .type "list", dict := none, data := .seq ([] : List Value).toArray } = H2 at hns₁ hsb₁ ⊢
  have hC : H2.objs.size = s₂.heap.objs.size + 1 := by rw [← hH2, Heap.size_push]
  have hDC : s₂.heap.objs.size ≠ H2.objs.size := by rw [hC]; exact Nat.ne_of_lt (Nat.lt_succ_self _)
  have below : ∀ b, b < s₂.heap.objs.size → b ≠ H2.objs.size ∧ b ≠ s₂.heap.objs.size := fun b hb => ⟨by rw [hC]; exact Nat.ne_of_lt (Nat.lt_succ_of_lt hb), Nat.ne_of_lt hb⟩
  have old : ∀ b o, s₂.heap.get? b = some o → h₁.get? b = some o := fun b o e => hsb₁.extBut b o (below b (Heap.lt_size e)).1 (Heap.get?_push_of_some _ (hH2 ▸ Heap.get?_push_of_some _ e))
  have hacc : h₁.get? s₂.heap.objs.size = some (lst []) := hsb₁.extBut _ _ hDC (Heap.get?_push_of_some _ (hH2 ▸ Heap.get?_push_size _ rfl))
  have fresh₀ : ∀ a, s₂.heap.objs.size ≤ a → h₀.get? a = none := fun a ha => by
    cases e : h₀.get? a with
    | none => rfl
    | some o' => exact absurd (Heap.lt_size (F.keep a o' e)) (Nat.not_lt.mpr ha)
  have hIlt : I < s₂.heap.objs.size := hfl I (W.sub I (List.mem_singleton.mpr rfl))
  have hLlt : L < s₂.heap.objs.size := F.ns.lt
  have hD₀ : h₀.get? s₂.heap.objs.size = none := fresh₀ _ (Nat.le_refl _)
  have hC₀ : h₀.get? H2.objs.size = none := fresh₀ _ (by rw [hC]; exact Nat.le_succ _)
  have hDL : s₂.heap.objs.size ≠ L := Ne.symm (below L hLlt).2
  have hCL : H2.objs.size ≠ L := Ne.symm (below L hLlt).1
  have hCI : I ≠ H2.objs.size := (below I hIlt).1
  have hDI : I ≠ s₂.heap.objs.size := (below I hIlt).2
  have off₀ : Off3 I H2.objs.size s₂.heap.objs.size news := Off3.of fun p hp => ⟨off p hp, (below _ (Heap.lt_size (N p hp).1)).1, (below _ (Heap.lt_size (N p hp).1)).2⟩
  have hCf : H2.objs.size ∉ fp := fun hm => (below _ (hfl _ hm)).1 rfl
  have hDf : s₂.heap.objs.size ∉ fp := fun hm => (below _ (hfl _ hm)).2 rfl
  generalize hCC : H2.objs.size = C at *
  generalize hDD : s₂.heap.objs.size = D at *
  have loop : ∀ s₃ : Shared, s₃ = { s₂ with heap := h₁, toks := s₂.toks + ([] : List (PySem.Str × Value)).length } →
      codeAny (model prog w) A (.compLoop (.ListComp elt [⟨target, iter, ifs, 0⟩] scope pos) 0 (.ref I) (.ref D) (compEnvC scope cl C env)) (RR (.ref D) C) s₃ := by
    rintro s₃ rfl
    refine loop_any
      (fun k s' => ∃ h' tk i ys m' nw, s' = { s₂ with heap := h', toks := tk } ∧ i ≤ n ∧ k = n + 1 - i ∧ St i h' ∧ Fr h₀ L h' m ∧ h'.Ns C m' ∧ News h₀ L h' ((D, lst ys) :: nw) ∧ Off3 I C D nw ∧ J i ys nw) ?_ (n + 1)
      ⟨h₁, _, 0, [], _, news, rfl, Nat.zero_le _, rfl, W.frame _ _ _ hst fun b _ o e => old b o e, F.keeps old, hns₁, fun p hp => ?_, off₀, J0⟩
    · rintro k s' ⟨h', tk, i, ys, m', nw, rfl, hi, rfl, hst', F', hn', N', off', hJ⟩
      by_cases hlt : i < n
      · refine W.item i _ _ _ hlt hst' fun v h₂ tk₂ hPv hst₂ hk₂ => ?_
        have off3 := off'.mem
        obtain ⟨oI, heI⟩ := hIo _ _ hst₂
        obtain ⟨oC, heC, hoC⟩ := ns_obj (hn'.at' fun o e => hk₂ _ o (by simpa using Ne.symm hCI) e)
        have F₂ : Fr h₀ L h₂ m := fr_but F' hk₂ hIL hI₀
        have N₂ : News h₀ L h₂ ((I, oI) :: (C, oC) :: (D, lst ys) :: nw) := fun p hp => by
          rcases List.mem_cons.mp hp with rfl | hp
          · exact ⟨heI, Ne.symm hIL, hI₀⟩
          · rcases List.mem_cons.mp hp with rfl | hp
            · exact ⟨heC, hCL, hC₀⟩
            · refine news_but N' hk₂ (fun p hp => ?_) p hp
              rcases List.mem_cons.mp hp with rfl | hp
              · exact Ne.symm hDI
              · exact (off3 p hp).1
        have stAfter : ∀ zs h₄ oC4 nw4, News h₀ L h₄ ((I, oI) :: (C, oC4) :: (D, lst ys) :: nw4) → Fr h₀ L h₄ m → J (i + 1) zs nw4 → St (i + 1) h₄ := by
          intro zs h₄ oC4 nw4 N₄ F₄ hJ4
          refine W.frame _ _ _ hst₂ fun b hb o e => ?_
          by_cases hbI : b = I
          · subst hbI
            rw [heI] at e; cases e
            exact (N₄ _ (.head _)).1
          · rcases hfp b hb hbI with ⟨o', ho'⟩ | ⟨o', ho'⟩
            · have : o' = o := by have := F₂.keep b o' ho'; rw [e] at this; exact (Option.some.inj this).symm
              exact this ▸ F₄.keep b o' ho'
            · have e1 := (N₂ (b, o') (.tail _ (.tail _ (.tail _ (ho' _ _ _ hJ))))).1
              have : o' = o := by rw [e] at e1; exact (Option.some.inj e1).symm
              exact this ▸ (N₄ (b, o') (.tail _ (.tail _ (.tail _ (ho' _ _ _ hJ4))))).1
        refine wpAny_mono (hgo (i + 1) { s₂ with heap := h₂, toks := tk₂ } v (fun _ s' => s' = { s₂ with heap := h₂, toks := tk₂ }) hst₂ rfl) (fun _ s' e => ?_) fun _ _ x => x.elim
        subst e
        refine wpAny_mono (turn i v ys nw I oI C oC D _ h₂ tk₂ hlt hPv hJ F₂ N₂ hoC off' ⟨hCI, hDI, Ne.symm hDC⟩) (fun _ s₃ h₃ => wpAny_mono h₃ (fun ok s₄ h₄ => ?_) fun _ _ e => e) fun _ _ e => e
        cases ok with
        | false =>
          simp only [Bool.false_eq_true, if_false] at h₄ ⊢
          obtain ⟨h₄, tk₄, oC4, m₄, nw4, rfl, F₄, N₄, hoC4, off₄, hJ4⟩ := h₄
          exact ⟨n + 1 - (i + 1), by omega, h₄, tk₄, i + 1, ys, m₄, nw4, rfl, hlt, rfl, stAfter _ _ _ _ N₄ F₄ hJ4, F₄, hoC4.ns (N₄ _ (.tail _ (.head _))).1, fun p hp => N₄ p (.tail _ (.tail _ hp)), off₄, hJ4⟩
        | true =>
          simp only [if_true] at h₄ ⊢
          refine wpAny_mono h₄ (fun y s₅ h₅ => ?_) fun _ _ e => e
          obtain ⟨h₄, tk₄, oC4, m₄, nw4, rfl, F₄, N₄, hoC4, off₄, hJ4⟩ := h₅
          have hst₄ := stAfter _ _ _ _ N₄ F₄ hJ4
          refine append_at (hsz := by
            show ys.toArray.size ≤ sizeLine
            have := hJl _ _ _ hJ
            rw [List.size_toArray]; omega) (N₄ _ (.tail _ (.tail _ (.head _)))).1 fun h₅ hs₅ hD₅ => ?_
          have off4 := off₄.mem
          refine ⟨n + 1 - (i + 1), by omega, h₅, tk₄, i + 1, ys ++ [y], m₄, nw4, rfl, hlt, rfl, W.frame _ _ _ hst₄ fun b hb o e => hs₅.extBut b o (fun q => hDf (q ▸ hb)) e, F₄.change hs₅ hDL hD₀,
            (hoC4.ns (N₄ _ (.tail _ (.head _))).1).sameBut hs₅ (Ne.symm hDC), fun p hp => ?_, off₄, hJ4⟩
          rcases List.mem_cons.mp hp with rfl | hp
          · exact ⟨hD₅.trans (congrArg some (lst_snoc ys y)), hDL, hD₀⟩
          · have z := N₄ p (.tail _ (.tail _ (.tail _ hp)))
            exact ⟨hs₅.extBut _ _ (off4 p hp).2.2 z.1, z.2⟩
      · obtain rfl : i = n := Nat.le_antisymm hi (Nat.not_lt.mp hlt)
        refine W.done _ _ _ hst' fun h₂ tk₂ hk₂ => ?_
        have off3 := off'.mem
        exact hRR _ _ h₂ tk₂ _ ys nw (fr_but F' hk₂ hIL hI₀) (news_but N' hk₂ fun p hp => by
          rcases List.mem_cons.mp hp with rfl | hp
          · exact Ne.symm hDI
          · exact (off3 p hp).1) off'.one (hn'.at' fun o e => hk₂ _ o (by simpa using Ne.symm hCI) e) hC₀ hD₀ hCL hDL (Ne.symm hDC) (fun p hp => (off3 p hp).2.1) hJ
    · rcases List.mem_cons.mp hp with rfl | hp
      · exact ⟨hacc, hDL, hD₀⟩
      · exact ⟨old _ _ (N p hp).1, (N p hp).2⟩
  exact codeAny_compStart_list (loop _ rfl) (W.self 0 _ _ _ (W.frame _ _ _ hst fun b _ o e => old b o e) (loop _ rfl))
theorem offC {I C D : Addr} {o : Obj} {nw : List (Addr × Obj)} (ne : (@Ne Nat I C) ∧ (@Ne Nat I D) ∧ (@Ne Nat C D)) (off : Off3 I C D nw) : ∀ p ∈ (D, o) :: nw, @Ne Nat p.1 C := fun p hp => by
  rcases List.mem_cons.mp hp with rfl | hp
  · exact fun e => ne.2.2 e.symm
  · exact (off.mem p hp).2.1
/-- a name stored in the block's own frame -/
theorem store {scope : Scope} {cl : List (PySem.Str × Addr)} {C : Addr} {x : PySem.Str} {v : Value} {Q : Unit → Shared → Prop} {pI : Addr × Obj} {oC : Obj} {rest : List (Addr × Obj)} {m₂ : PySem.Str → Option Value}
    (F : Fr h₀ L s.heap m) (N : News h₀ L s.heap (pI :: (C, oC) :: rest)) (hC : NsObj oC m₂) (hIC : @Ne Nat pI.1 C) (hr : ∀ p ∈ rest, @Ne Nat p.1 C) (hx : scope.names.lookup x = some .local) (hkind : scope.kind = .function)
    (h : ∀ h' oC' tk, Fr h₀ L h' m → News h₀ L h' (pI :: (C, oC') :: rest) → NsObj oC' (fun z => if z = x then some v else m₂ z) → Q () { s with heap := h', toks := tk }) :
    wpAny (model prog w) A (storeName (compEnvC scope cl C env) x v) Q E s := by
  have NC := N (C, oC) (.tail _ (.head _))
  refine wpAny_storeName_local (lookup_relabel_local hx) (hC.ns NC.1) (fun h₃ hn₃ hs₃ => ?_) (by simp [compEnvC, relabel, hkind])
  obtain ⟨oC', heC, hoC⟩ := ns_obj hn₃
  have hs₃ : Heap.SameBut C s.heap h₃ := hs₃
  have heC : h₃.get? C = some oC' := heC
  refine h h₃ oC' _ (F.change hs₃ NC.2.1 NC.2.2) (fun p hp => ?_) hoC
  rcases List.mem_cons.mp hp with rfl | hp
  · exact ⟨hs₃.extBut _ _ hIC (N _ (.head _)).1, (N _ (.head _)).2⟩
  · rcases List.mem_cons.mp hp with rfl | hp
    · exact ⟨heC, NC.2⟩
    · exact ⟨hs₃.extBut _ _ (hr p hp) (N p (.tail _ (.tail _ hp))).1, (N p (.tail _ (.tail _ hp))).2⟩
theorem asg_name {scope : Scope} {cl : List (PySem.Str × Addr)} {C : Addr} {x : PySem.Str} {px : Pos} {v : Value} {Q : Unit → Shared → Prop} {pI : Addr × Obj} {oC : Obj} {rest : List (Addr × Obj)} {m₂ : PySem.Str → Option Value}
    (F : Fr h₀ L s.heap m) (N : News h₀ L s.heap (pI :: (C, oC) :: rest)) (hC : NsObj oC m₂) (hIC : @Ne Nat pI.1 C) (hr : ∀ p ∈ rest, @Ne Nat p.1 C) (hx : scope.names.lookup x = some .local) (hkind : scope.kind = .function)
    (h : ∀ h' oC' tk, Fr h₀ L h' m → News h₀ L h' (pI :: (C, oC') :: rest) → NsObj oC' (fun z => if z = x then some v else m₂ z) → Q () { s with heap := h', toks := tk }) :
    wpAny (model prog w) A (assign (.Name x px) (compEnvC scope cl C env) v) Q E s := wpAny_assign_Name (store F N hC hIC hr hx hkind h)
theorem asg_pair {scope : Scope} {cl : List (PySem.Str × Addr)} {C r : Addr} {x y : PySem.Str} {px py pos : Pos} {k} {v u : Value} {Q : Unit → Shared → Prop} {pI : Addr × Obj} {oC : Obj} {rest : List (Addr × Obj)} {m₂ : PySem.Str → Option Value}
    (hh : A.handled = none) (F : Fr h₀ L s.heap m) (N : News h₀ L s.heap (pI :: (C, oC) :: rest)) (ht : IsTup s.heap r [v, u].toArray) (hC : NsObj oC m₂) (hIC : @Ne Nat pI.1 C) (hr : ∀ p ∈ rest, @Ne Nat p.1 C) (hx : scope.names.lookup x = some .local) (hy : scope.names.lookup y = some .local) (hkind : scope.kind = .function)
    (h : ∀ h' oC' tk, Fr h₀ L h' m → News h₀ L h' (pI :: (C, oC') :: rest) → NsObj oC' (fun z => if z = y then some u else if z = x then some v else m₂ z) → Q () { s with heap := h', toks := tk }) :
    wpAny (model prog w) A (assign (.Tuple [.Name x px, .Name y py] k pos) (compEnvC scope cl C env) (.ref r)) Q E s := by
  refine unpackN_ F N ht hh rfl rfl fun h₁ F₁ N₁ => ?_
  refine assignInOrder_cons (asg_name F₁ N₁ hC hIC hr hx hkind fun h₂ oC₂ t₂ F₂ N₂ hC₂ => ?_)
  refine assignInOrder_cons (asg_name F₂ N₂ hC₂ hIC hr hy hkind fun h₃ oC₃ t₃ F₃ N₃ hC₃ => ?_)
  exact assignInOrder_nil (h h₃ oC₃ t₃ F₃ N₃ hC₃)
/-- what a comprehension walks along: its iterator is new -/
def IterAt (prog : Program) (w : World) (A : Around) (target : Expr) (xv : Value) (P : Nat → Value → Prop) (n : Nat) (foot : List Addr) (s : Shared) : Prop :=
  ∀ (Q : Value → Shared → Prop) (E : Value → Shared → Prop), (∀ (o : Obj) (St : Nat → Heap → Prop), o.isFreed = false → Walks prog w A s.heap.objs.size (s.heap.objs.size :: foot) [s.heap.objs.size] n P St → (∀ i h, St i h → ∃ o, h.get? s.heap.objs.size = some o) →
      (∀ i (s' : Shared) v (Q' : Unit → Shared → Prop), St i s'.heap → Q' () s' → wpAny (model prog w) A (letOwnedTupleGo target (.ref s.heap.objs.size) v) Q' (fun _ _ => False) s') → St 0 (s.heap.push o) → Q (.ref s.heap.objs.size) { s with heap := s.heap.push o }) →
    wpAny (model prog w) A (pyIter xv) Q E s
theorem iter_list {target : Expr} {ax : Addr} {its : List Value} (hh : A.handled = none) (hl : s.heap.IsList ax its.toArray) : IterAt prog w A target (.ref ax) (fun i v => its[i]? = some v) its.length [ax] s := by
  intro Q E h
  refine wpAny_pyIter_list hl ?_
  have hlt : ax < s.heap.objs.size := by obtain ⟨_, e, _⟩ := hl; exact Heap.lt_size e
  have W := Walks.list (prog := prog) (w := w) hh s.heap.objs.size ax (Nat.ne_of_lt hlt) its.toArray
  simp only [List.size_toArray, List.getElem?_toArray] at W
  exact h _ _ rfl W (fun i h st => by obtain ⟨o, e, _⟩ := st.1; exact ⟨o, e⟩) (fun i s' v Q' st hq => letGo_listiter st.1 hq) ⟨⟨_, Heap.get?_push_size _ rfl, rfl, rfl⟩, hl.push _⟩
theorem iter_tup {x : PySem.Str} {px : Pos} {ax : Addr} {its : List Value} (hh : A.handled = none) (hl : IsTup s.heap ax its.toArray) : IterAt prog w A (.Name x px) (.ref ax) (fun i v => its[i]? = some v) its.length [ax] s := by
  intro Q E h
  have hl' : s.heap.IsTuple ax its.toArray := hl
  refine wpAny_pyIter_tuple hl' ?_
  have hlt : ax < s.heap.objs.size := by obtain ⟨_, e, _⟩ := hl; exact Heap.lt_size e
  have W := Walks.tuple (prog := prog) (w := w) hh s.heap.objs.size ax (Nat.ne_of_lt hlt) its.toArray
  simp only [List.size_toArray, List.getElem?_toArray] at W
  exact h _ _ rfl W (fun i h st => by obtain ⟨o, e, _⟩ := st.1; exact ⟨o, e⟩) (fun i s' v Q' st hq => letGo_name hq) ⟨⟨_, Heap.get?_push_size _ rfl, rfl, rfl⟩, hl'.at fun o e => Heap.get?_push_of_some _ e⟩
theorem iter_bytes {x : PySem.Str} {px : Pos} {b : Array UInt8} {t : Tok} (hh : A.handled = none) : IterAt prog w A (.Name x px) (.bytes b t) (fun i v => ∃ c u, b[i]? = some c ∧ v = .int (c.toNat : Int) u) b.size [] s := by
  intro Q E h
  refine KBw.pyIter_bytes ?_
  exact h _ _ rfl (KBw.walks hh _ b t) (fun i h st => let ⟨o, e, _⟩ := st; ⟨o, e⟩) (fun i s' v Q' st hq => letGo_name hq) ⟨_, Heap.get?_push_size _ rfl, rfl, rfl⟩
theorem iter_str {x : PySem.Str} {px : Pos} {y : PySem.Str} {t : Tok} (hh : A.handled = none) : IterAt prog w A (.Name x px) (.str y t) (SignAt y) y.cps.size [] s := by
  intro Q E h
  cases ha : y.cps.all (· < 128)
  · exact wpAny_pyIter_wide ha (h _ _ rfl (Walks.strWide hh _ y t) (fun i h st => let ⟨o, e, _⟩ := st; ⟨o, e⟩) (fun i s' v Q' st hq => letGo_name hq) ⟨_, Heap.get?_push_size _ rfl, rfl, rfl⟩)
  · exact wpAny_pyIter_ascii ha (h _ _ rfl (Walks.strAscii hh _ y t) (fun i h st => let ⟨o, e, _⟩ := st; ⟨o, e⟩) (fun i s' v Q' st hq => letGo_name hq) ⟨_, Heap.get?_push_size _ rfl, rfl, rfl⟩)
/-- a comprehension's source, its turns by a word J, what follows (Fin) -/
def Src (prog : Program) (w : World) (A : Around) (h₀ : Heap) (L : Addr) (m : PySem.Str → Option Value) (env : Env) (target elt : Expr) (ifs : List Expr) (scope : Scope) (cl : List (PySem.Str × Addr)) (Fin : Nat → (Nat → List Value → List (Addr × Obj) → Prop) → Shared → Prop) (xv : Value) (s₁ : Shared) : Prop :=
  ∃ (n : Nat) (P : Nat → Value → Prop) (foot : List Addr) (news : List (Addr × Obj)) (J : Nat → List Value → List (Addr × Obj) → Prop),
      IterAt prog w A target xv P n foot s₁ ∧ n ≤ sizeLine ∧ Fr h₀ L s₁.heap m ∧ News h₀ L s₁.heap news ∧ (∀ b ∈ foot, b < s₁.heap.objs.size ∧ ((∃ o, h₀.get? b = some o) ∨ ∃ o, ∀ i ys nw, J i ys nw → (b, o) ∈ nw)) ∧ (∀ i ys nw, J i ys nw → ys.length ≤ i) ∧ J 0 [] news ∧
      (∀ i v ys nw I oI C oC D m₂ h tk, i < n → P i v → J i ys nw → Fr h₀ L h m → News h₀ L h ((I, oI) :: (C, oC) :: (D, lst ys) :: nw) → NsObj oC m₂ → Off3 I C D nw → ((@Ne Nat I C) ∧ (@Ne Nat I D) ∧ (@Ne Nat C D)) →
        wpAny (model prog w) A (assign target (compEnvC scope cl C env) v) (fun _ s₃ => tests prog w A (compEnvC scope cl C env) ifs (fun ok s₄ => if ok = true then wpAny (model prog w) A (eval elt (compEnvC scope cl C env)) (fun y s₅ => End h₀ L m I oI C D ys (fun nw' => J (i + 1) (ys ++ [y]) nw') s₁ s₅) (fun _ _ => False) s₄
          else End h₀ L m I oI C D ys (fun nw' => J (i + 1) ys nw') s₁ s₄) s₃) (fun _ _ => False) { s₁ with heap := h, toks := tk }) ∧
      Fin n J s₁
/-- a comprehension's value, by a word J of what stands after each turn -/
theorem expr {elt target iter : Expr} {ifs : List Expr} {scope : Scope} {cl : List (PySem.Str × Addr)} {pos : Pos} {Q : Value → Shared → Prop} (F₀ : Fr h₀ L s.heap m)
    (hclos : closureFor scope env = pure cl) (hcell : ∀ y ∈ scope.names, y.2 ≠ .cell) (hkind : scope.kind = .function) (hnames : ∀ y ∈ scope.names, y.2 = .local → scope.names.lookup y.1 = some .local)
    (h : wpAny (model prog w) A (eval iter env) (Src prog w A h₀ L m env target elt ifs scope cl (fun n J s₁ => ∀ D ys nw h tk, J n ys nw → Fr h₀ L h m → News h₀ L h ((D, lst ys) :: nw) → Off1 D nw → Q (.ref D) { s₁ with heap := h, toks := tk })) E s)
    (hs : ∀ x, foldedSetIterable iter env x = pure x := by intro _; rfl) :
    wpAny (model prog w) A (eval (.ListComp elt [⟨target, iter, ifs, 0⟩] scope pos) env) Q E s := by
  rw [eval_ListComp]
  refine wpAny_comprehension_free (use := none) rfl hs hclos hkind hnames (wpAny_mono h (fun xv s₁ h₁ => ?_) fun _ _ e => e)
  obtain ⟨n, P, foot, news, J, hIt, hsz, F, N, hf, hJl, J0, turn, fin⟩ := h₁
  refine hIt _ _ fun o St hof W hlive hgo hst => ?_
  have up : ∀ b x, s₁.heap.get? b = some x → (s₁.heap.push o).get? b = some x := fun b x e => Heap.get?_push_of_some _ e
  refine core W hsz hlive J hJl (fun b hb hbI => ?_) hcell hkind hst (fun b hb => ?_) (F.keeps up) (N.grown up) (Nat.ne_of_lt F.ns.lt) (next_is_new F) (fun p hp => Nat.ne_of_lt (Heap.lt_size (N p hp).1)) hgo J0 turn ?_
  · rcases List.mem_cons.mp hb with rfl | hb
    · exact absurd rfl hbI
    · exact (hf b hb).2
  · show b < (s₁.heap.push _).objs.size
    rw [Heap.size_push]
    rcases List.mem_cons.mp hb with rfl | hb
    · exact Nat.lt_succ_self _
    · exact Nat.lt_succ_of_lt (hf b hb).1
  · intro D C h tk m' ys nw F' N' o1 hn hC₀ hD₀ hCL hDL hCD offC hJ
    refine ⟨m', hn, fun h'' hs'' => fin D ys nw h'' tk hJ (F'.change hs'' hCL hC₀) (fun p hp => ?_) o1⟩
    refine ⟨hs''.extBut _ _ ?_ (N' p hp).1, (N' p hp).2⟩
    rcases List.mem_cons.mp hp with rfl | hp
    · exact Ne.symm hCD
    · exact offC p hp
/-- name = [..] -/
theorem asn {elt target iter : Expr} {ifs : List Expr} {y : PySem.Str} {py : Pos} {scope : Scope} {cl : List (PySem.Str × Addr)} {pos spos : Pos} {Q : Flow → Shared → Prop} (F₀ : Fr h₀ L s.heap m) (hLe : env.locals = L)
    (hsw : swapsWith (.ListComp elt [⟨target, iter, ifs, 0⟩] scope pos) (some (.Name y py)) spos.line env = pure true)
    (hclos : closureFor scope env = pure cl) (hcell : ∀ z ∈ scope.names, z.2 ≠ .cell) (hkind : scope.kind = .function) (hnames : ∀ z ∈ scope.names, z.2 = .local → scope.names.lookup z.1 = some .local)
    (hy : env.kindOf y = some .local) (hp : (env.scope.kind == .class || (env.scope.kind == .module && env.locals != env.globals)) = false)
    (h : wpAny (model prog w) A (eval iter env) (Src prog w A h₀ L m env target elt ifs scope cl (fun n J s₁ => ∀ D ys nw h tk, J n ys nw → Fr h₀ L h (fun z => if z = y then some (.ref D) else m z) → News h₀ L h ((D, lst ys) :: nw) → Off1 D nw → Q .next { s₁ with heap := h, toks := tk })) E s)
    (hs : ∀ x, foldedSetIterable iter env x = pure x := by intro _; rfl) :
    wpAny (model prog w) A (exec (.Assign [.Name y py] (.ListComp elt [⟨target, iter, ifs, 0⟩] scope pos) spos) env) Q E s := by
  subst hLe
  rw [exec_Assign_Name_used _ _ _ _ hsw]
  refine wpAny_bind (wpAny_standAt (wpAny_bind ?_))
  show wpAny _ A (do let _ ← comprehension (.ListComp elt [⟨target, iter, ifs, 0⟩] scope pos) scope env _ (newList []) false (eval iter env) (some (assign (.Name y py) env))) _ _ s
  refine wpAny_bind (wpAny_mono (wpAny_comprehension_free (use := some (assign (.Name y py) env)) (Q := fun _ s' => Q .next s') rfl hs hclos hkind hnames
    (wpAny_mono h (fun xv s₁ h₁ => ?_) fun _ _ e => e)) (fun _ s' hq => wpAny_pure (wpAny_pure hq)) fun _ _ e => e)
  obtain ⟨n, P, foot, news, J, hIt, hsz, F, N, hf, hJl, J0, turn, fin⟩ := h₁
  refine hIt _ _ fun o St hof W hlive hgo hst => ?_
  have up : ∀ b x, s₁.heap.get? b = some x → (s₁.heap.push o).get? b = some x := fun b x e => Heap.get?_push_of_some _ e
  refine core W hsz hlive J hJl (fun b hb hbI => ?_) hcell hkind hst (fun b hb => ?_) (F.keeps up) (N.grown up) (Nat.ne_of_lt F.ns.lt) (next_is_new F) (fun p hp => Nat.ne_of_lt (Heap.lt_size (N p hp).1)) hgo J0 turn ?_
  · rcases List.mem_cons.mp hb with rfl | hb
    · exact absurd rfl hbI
    · exact (hf b hb).2
  · show b < (s₁.heap.push _).objs.size
    rw [Heap.size_push]
    rcases List.mem_cons.mp hb with rfl | hb
    · exact Nat.lt_succ_self _
    · exact Nat.lt_succ_of_lt (hf b hb).1
  · intro D C h tk m' ys nw F' N' o1 hn hC₀ hD₀ hCL hDL hCD offC hJ
    show wpAny _ A (assign (.Name y py) env (.ref D)) _ _ _
    refine wpAny_assign_Name (wpAny_storeName_local hy F'.ns (fun h₂ hn₂ hs₂ => ?_) hp)
    have hL₀ : h₀.get? env.locals = none := Heap.get?_none_of_le F'.above
    have F₂ : Fr h₀ env.locals h₂ (fun z => if z = y then some (.ref D) else m z) := ⟨hn₂, fun b o e => hs₂.extBut b o (fun q => by rw [q, hL₀] at e; cases e) (F'.keep b o e), F'.above⟩
    refine ⟨m', hn.sameBut hs₂ hCL, fun h'' hs'' => fin D ys nw h'' _ hJ (F₂.change hs'' hCL hC₀) (fun p hp => ?_) o1⟩
    have z : h₂.get? p.1 = some p.2 := hs₂.extBut _ _ (N' p hp).2.1 (N' p hp).1
    refine ⟨hs''.extBut _ _ ?_ z, (N' p hp).2⟩
    rcases List.mem_cons.mp hp with rfl | hp
    · exact Ne.symm hCD
    · exact offC p hp
end
end CM
end
local macro_rules | `(tactic| walk_at "eval Name") => `(tactic| k_dflt ((k_here; (with_reducible show wpAny _ _ (eval (Expr.Name _ _) (compEnvC _ _ _ _)) _ _ _); k_dflt (refine' PySem.W.LCgL.ld_own ?N ?m ?C ?x ?_ ?a ?b ?c; (case N => k_asm); (case m => k_mem); (case C => assumption); (case a => rfl); (case b => rfl); (case c => decide); (case x => walk_at "mine look")))))
-- L6
section
section
variable {prog : Program} {w : World} {A : Around} {E : Value → Shared → Prop} {s : Shared} {env : Env} {h₀ : Heap} {m : PySem.Str → Option Value} {news : List (Addr × Obj)}
/-- for target in any source -/
theorem for_it {L : Addr} (hL : env.locals = L) {target : Expr} {body : List Stmt} {Q : Flow → Shared → Prop} {xv : Value} {P : Nat → Value → Prop} {n : Nat} {foot : List Addr}
    (It : CM.IterAt prog w A target xv P n foot s) (J : Addr → Nat → (PySem.Str → Option Value) → List (Addr × Obj) → Prop) (F : Fr h₀ L s.heap m) (N : News h₀ L s.heap news)
    (hf : ∀ b ∈ foot, (∃ o, h₀.get? b = some o) ∨ ∃ o, ∀ I i m news, J I i m news → (b, o) ∈ news)
    (h0 : ∀ I, (∀ p ∈ news, p.1 < I) → J I 0 m news)
    (turn : ∀ I i v m news h tk oI, i < n → P i v → J I i m news → Fr h₀ L h m → News h₀ L h ((I, oI) :: news) → (∀ p ∈ news, p.1 ≠ I) →
      wpAny (model prog w) A (assign target env v) (fun _ s₂ => wpAny (model prog w) A (execs body env)
        (TurnP h₀ L (fun m' news' => ∃ nx, news' = (I, oI) :: nx ∧ (∀ p ∈ nx, p.1 ≠ I) ∧ J I (i + 1) m' nx) s Q) (fun _ _ => False) s₂) (fun _ _ => False) { s with heap := h, toks := tk })
    (done : ∀ I m news h tk, J I n m news → Fr h₀ L h m → News h₀ L h news → Q .next { s with heap := h, toks := tk }) :
    wpAny (model prog w) A (pyIter xv) (fun it s₂ => codeAny (model prog w) A (.forLoop target it body [] env) (fun r s' => match r with | .ok f => Q f s' | .error e => cameBackBy (model prog w) A env E e s') s₂) E s := by
  subst hL
  refine It _ _ fun o St hof W hlive hgo hst => ?_
  refine for_core rfl (R := fun r s' => match r with | .ok f => Q f s' | .error e => cameBackBy (model prog w) A env E e s') W (J s.heap.objs.size) (F.push _) (fun p hp => ⟨Heap.get?_push_of_some _ (N p hp).1, (N p hp).2⟩)
    hst ⟨_, Heap.get?_push_size _ hof⟩ (next_is_new F) (Nat.ne_of_lt F.ns.lt) (fun p hp => Nat.ne_of_lt (Heap.lt_size (N p hp).1)) hlive ?_ hgo (h0 _ fun p hp => Heap.lt_size (N p hp).1) ?_ ?_
  · intro b hb hbI
    rcases List.mem_cons.mp hb with rfl | hb
    · exact absurd rfl hbI
    · rcases hf b hb with h | ⟨o, h⟩
      · exact .inl h
      · exact .inr ⟨o, fun i m news hJ => h _ i m news hJ⟩
  · intro i v m₁ news₁ h tk oI hi hP hJ F₁ N₁ hn
    exact turn _ i v m₁ news₁ h tk oI hi hP hJ F₁ N₁ hn
  · intro m₁ news₁ h tk hJ F₁ N₁
    exact done _ m₁ news₁ h tk hJ F₁ N₁
end
/-- the values' kinds, as the law names them -/
def kindS : Value → PySem.Str
  | .bool _ => PySem.Str.ofString "b"
  | .int _ _ => PySem.Str.ofString "n"
  | .bytes _ _ => PySem.Str.ofString "r"
  | _ => PySem.Str.ofString "t"
def Plainv : Value → Prop
  | .bool _ => True
  | .int _ _ => True
  | .bytes _ _ => True
  | .str _ _ => True
  | _ => False
section
variable {prog : Program} {w : World} {A : Around} {E : Value → Shared → Prop} {s : Shared} {h₀ : Heap} {L : Addr} {m : PySem.Str → Option Value} {news : List (Addr × Obj)}
theorem divmod_E {a b q r : Int} {t u : Tok} {Q : Value → Shared → Prop} (F : Fr h₀ L s.heap m) (N : News h₀ L s.heap news) (hb : b ≠ 0) (hq : a.fdiv b = q) (hr : a.fmod b = r) (hp : Builtin.divisionGoesByPylong a b = false)
    (h : ∀ D h' t1 t2 tk, Fr h₀ L h' m → News h₀ L h' ((D, ({ cls := .type "tuple", data := .seq [.int q t1, .int r t2].toArray } : Obj)) :: news) → (∀ p ∈ news, p.1 < D) → Q (.ref D) { s with heap := h', toks := tk }) :
    wpAny (model prog w) A (call (.builtin "divmod") [.int a t, .int b u]) Q E s := by
  subst hq; subst hr
  exact divmod_N F N hb (fun h' F' N' => h _ h' _ _ _ F' N' fun p hp => Heap.lt_size (N p hp).1) (.inl hp)
theorem pylong2 (a : Int) {n : Nat} (h : n ≤ 1000) : Builtin.divisionGoesByPylong a ((2 : Int) ^ n) = false := by
  refine PyProof.noPylong_of_log2 ?_
  have e : ((2 : Int) ^ n).natAbs = 2 ^ n := by rw [Int.natAbs_pow]; rfl
  rw [e, Nat.log2_two_pow]; omega
theorem fmod_pow (a : Int) (n : Nat) : ∃ N : Nat, a.fmod ((2 : Int) ^ n) = (N : Int) ∧ N < 2 ^ n := by
  have hp : (0 : Int) < (2 : Int) ^ n := Int.pow_pos (by decide)
  have h1 := Int.fmod_nonneg_of_pos a hp
  have h2 := Int.fmod_lt_of_pos a hp
  obtain ⟨N, hN⟩ := Int.eq_ofNat_of_zero_le h1
  refine ⟨N, hN, ?_⟩
  have e : ((2 ^ n : Nat) : Int) = (2 : Int) ^ n := by rw [Int.natCast_pow]; rfl
  rw [hN, ← e] at h2
  exact Int.ofNat_lt.mp h2
end
section
variable {prog : Program} {w : World} {A : Around} {E : Value → Shared → Prop} {s : Shared}
theorem mul_E {a b c : Int} {t u : Tok} {Q : Value → Shared → Prop} (e : a * b = c) (hm : IntMulOk a b) (h : Q (.int c s.toks) { s with toks := s.toks + 1 }) : wpAny (model prog w) A (binaryOp .Mult (.int a t) (.int b u)) Q E s := mul_int (by rw [e]; exact h) hm
theorem fdiv_E {a b c : Int} {t u : Tok} {Q : Value → Shared → Prop} (e : a.fdiv b = c) (hb : b ≠ 0) (hp : Builtin.divisionGoesByPylong a b = false) (h : Q (.int c s.toks) { s with toks := s.toks + 1 }) : wpAny (model prog w) A (binaryOp .FloorDiv (.int a t) (.int b u)) Q E s := by
  subst e
  exact PySem.AutoIntOps.floordiv_1 (by simpa using hb) (by rw [hp]; exact Bool.false_ne_true) h
end
end
local macro_rules | `(tactic| walk_at "call builtin:divmod") => `(tactic| k_dflt ((k_here; (with_reducible show wpAny _ _ (call (Value.builtin _) [Value.int _ _, Value.int _ _]) _ _ _); k_dflt (refine' divmod_E ?F ?N ?hb ?hq ?hr ?hp ?_; (case F => k_asm); (case N => k_asm); (case hb => first | assumption | omega | decide); (case hq => first | with_reducible assumption | exact rfl); (case hr => first | with_reducible assumption | exact rfl); (case hp => first | assumption | exact PyProof.noPylong_of_log2 (by decide +kernel))); intro D' h' t1' t2' tk' F' N' l1'; (try k_lt l1'); (try k_sweep))))
local macro_rules | `(tactic| walk_at "binaryOp Mult int int") => `(tactic| k_dflt ((refine' mul_E ?e ?hm ?_; (case e => with_reducible assumption); (case hm => assumption))))
local macro_rules | `(tactic| walk_at "binaryOp FloorDiv int int") => `(tactic| k_dflt ((refine' fdiv_E ?e ?hb ?hp ?_; (case e => with_reducible assumption); (case hb => decide); (case hp => exact PyProof.noPylong_of_log2 (by decide +kernel)))))
-- L7
section
section
variable {prog : Program} {w : World} {A : Around} {E : Value → Shared → Prop} {s : Shared} {h₀ : Heap} {L : Addr} {m : PySem.Str → Option Value} {news news' : List (Addr × Obj)}
theorem iadd_list {M : Model} {l b : Addr} {Q : Value → Shared → Prop} (hl : s.TypeIs (.ref l) "list") (hb : s.TypeIs (.ref b) "list") (hc : wpAny M A (call (.builtin "list.__iadd__") [.ref l, .ref b]) Q E s) : wpAny M A (inplaceOp .Add (.ref l) (.ref b)) Q E s := by
  unfold inplaceOp
  refine wpAny_holding ?_
  have hsl : isSeqSlot (some (.builtin "list.__iadd__")) = true := by decide +kernel
  have hfi : fillsInplaceSlot (.type "list") "add" (Operator.Add == .Add) = pure false := by
    unfold fillsInplaceSlot
    show (typeLookup (.type "list") (dunderI "add") >>= fun fi => pure (fi.isSome && !isSeqSlot fi)) = pure false
    rw [F.slot_list_iadd.lookup]
    show pure (true && !isSeqSlot (some (.builtin "list.__iadd__"))) = (pure false : Sem Bool)
    rw [hsl]; rfl
  have hsi : seqSlot? (.type "list") (dunderI "add") = pure (some (.builtin "list.__iadd__")) := PySem.seqSlot_of F.slot_list_iadd.lookup hsl
  refine wpAny_bind (wpAny_typeOf hl (wpAny_bind (wpAny_of_eq hfi ?_)))
  show wpAny M A (if false = true then _ else _) Q E s
  rw [if_neg Bool.false_ne_true]
  refine wpAny_bind (wpAny_binaryOp1_none (nm := "add") hl hb noFill_list_add ?_)
  refine wpAny_bind (wpAny_of_eq hsi ?_)
  exact wpAny_bind (wpAny_rule hc)
theorem iadd_K {D b : Addr} {its its2 : Array Value} {zs : List Value} {n n2 : Nat} {Q : Value → Shared → Prop} (Fm : Fr h₀ L s.heap m) (N : News h₀ L s.heap news) (hb : (b, listOf its2 n2) ∈ news) (e : its.toList ++ its2.toList = zs) (hne : its2.toList.length ≠ 0)
    (U : Upd D (listOf its n) (listOf zs.toArray (n + 1)) news news') (hz : its.size + its2.size ≤ 10000)
    (h : ∀ h', Fr h₀ L h' m → News h₀ L h' news' → Q (.ref D) { s with heap := h' }) : wpAny (model prog w) A (inplaceOp .Add (.ref D) (.ref b)) Q E s := by
  obtain ⟨pre, post, rfl, rfl, a, c⟩ := U.split
  have z := N (D, listOf its n) (List.mem_append.mpr (.inr (.head _)))
  refine iadd_list ⟨_, z.1, rfl⟩ ⟨_, (N _ hb).1, rfl⟩ ?_
  have hd : ¬(!its.isEmpty && Builtin.List.listTooLong (its.size + its2.size)) = true := by
    have : Builtin.List.listTooLong (its.size + its2.size) = false := by
      unfold Builtin.List.listTooLong
      rw [sizeLine_eq]
      exact decide_eq_false (by omega)
    rw [this, Bool.and_false]; exact Bool.false_ne_true
  refine call_meets PySem.F.slot_list_iadd ⟨_, z.1, rfl⟩ PySem.F.entry_list_iadd (PySem.F.args_list_iadd_2 _ _) (PySem.AutoSeq1.list___iadd___list_list_0 D its n b its2 n2 hd (by rw [sizeLine_eq]; omega) (by rw [sizeLine_eq]; omega)) ⟨z.1, (N _ hb).1, h _ (Fm.change (Heap.SameBut.update ..) z.2.1 z.2.2) (kl_turn _ N a c ?_ ?_)⟩
  · subst e
    apply Array.toList_inj.mp
    simp
  · subst e
    simp at hne ⊢
    exact hne
theorem rep1_K {l : Addr} {v : Value} {k : Nat} {x : Int} {u : Tok} {c : Nat} {Q : Value → Shared → Prop} (Fm : Fr h₀ L s.heap m) (N : News h₀ L s.heap news) (hl : (l, listOf [v].toArray k) ∈ news) (hx : x = (c : Int)) (hc : c ≤ 10000)
    (h : ∀ D h', Fr h₀ L h' m → News h₀ L h' ((D, listOf (List.replicate c v).toArray 0) :: news) → (∀ p ∈ news, p.1 < D) → Q (.ref D) { s with heap := h' }) :
    wpAny (model prog w) A (binaryOp .Mult (.ref l) (.int x u)) Q E s := by
  subst hx
  refine mul_list Fm N (N _ hl).1 (by omega) (by omega) (by simp; omega) fun h' F' N' => h _ h' F' ?_ fun p hp => Heap.lt_size (N p hp).1
  have e : List.foldl (fun x1 x2 => x1 ++ x2) #[] (List.replicate (if ([v].toArray).isEmpty = true then 0 else ((c : Int)).toNat) [v].toArray) = (List.replicate c v).toArray := by
    rw [listMul_foldl_if, Int.toNat_natCast, List.flatten_replicate_singleton]
  rw [e] at N'
  exact N'
theorem addl_K {l b : Addr} {vs ws : List Value} {n n2 : Nat} {Q : Value → Shared → Prop} (Fm : Fr h₀ L s.heap m) (N : News h₀ L s.heap news) (hl : (l, listOf vs.toArray n) ∈ news) (hb : (b, listOf ws.toArray n2) ∈ news) (hz : vs.length + ws.length ≤ 10000)
    (h : ∀ D h', Fr h₀ L h' m → News h₀ L h' ((D, listOf (vs ++ ws).toArray 0) :: news) → (∀ p ∈ news, p.1 < D) → Q (.ref D) { s with heap := h' }) :
    wpAny (model prog w) A (binaryOp .Add (.ref l) (.ref b)) Q E s :=
  add_lists (hsz := by rw [sizeLine_eq]; omega) Fm N (News.isList N hl) (News.isList N hb) fun h' F' N' => h _ h' F' N' fun p hp => Heap.lt_size (N p hp).1
end
end
local macro_rules | `(tactic| walk_at "inplaceOp Add ref ref") => `(tactic| k_dflt ((k_here; (with_reducible show wpAny _ _ (inplaceOp _ (Value.ref _) (Value.ref _)) _ _ _); k_dflt (refine' iadd_K ?F ?N ?b ?e ?ne ?U ?z ?_; (case F => k_asm); (case N => k_asm); (case b => k_mem); (case U => k_upd); (case e => exact rfl); (case ne => exact Nat.succ_ne_zero _); (case z => (simp only [List.size_toArray, List.length_cons, List.length_nil]; omega))); intro h' F' N'; (try k_sweep))))
local macro_rules | `(tactic| walk_at "binaryOp Mult ref int") => `(tactic| k_dflt ((k_here; (with_reducible show wpAny _ _ (binaryOp _ (Value.ref _) (Value.int _ _)) _ _ _); k_dflt (refine' rep1_K ?F ?N ?b ?e ?z ?_; (case F => k_asm); (case N => k_asm); (case b => k_mem); (case e => with_reducible assumption); (case z => assumption)); intro D' h' F' N' l1'; (try k_lt l1'); (try k_sweep))))
local macro_rules | `(tactic| walk_at "binaryOp Add ref ref") => `(tactic| k_dflt ((k_here; (with_reducible show wpAny _ _ (binaryOp _ (Value.ref _) (Value.ref _)) _ _ _); k_dflt (refine' addl_K ?F ?N ?a ?b ?z ?_; (case F => k_asm); (case N => k_asm); (case a => k_mem); (case b => k_mem); (case z => (first | assumption | (simp only [List.length_replicate]; omega) | (simp only [List.length_cons, List.length_nil]; omega)))); intro D' h' F' N' l1'; (try k_lt l1'); (try k_sweep))))
-- C2
section
/-- a def of the program that keeps a parameter in a cell -/
theorem enterC {prog : Program} {w : World} {A : Around} {s : Shared} {K : Frag} {R : Result → Shared → Prop} {name qual : PySem.Str} {params : Arguments} {body : List Stmt} {scope : Scope} {dV kV doc pm cdv ct oc : Value} {an od : Option Addr} {osl : Array (Option Value)} {f : Addr} {args : Args} {binds : List (PySem.Str × Value)}
    (X : K.In s.heap) (hlim : s.heap.NoLimit)
    (ho : K.lookup f = some ⟨oc, od, .func (fnX name qual params body scope [] dV kV doc pm an cdv ct), osl⟩) (hcd : codeIn K cdv qual = true) (hroom : A.depth < recursionLimit)
    (hbind : BindsTo s (fnX name qual params body scope [] dV kV doc pm an cdv ct) args binds)
    (hkind : ∀ n, ∀ x ∈ binds, scope.names.lookup x.1 = some .local ∨ (scope.names.lookup x.1 = some .cell ∧ ((cellsFrom n scope.names []).lookup x.1).isSome = true))
    (hnd : ((cellsFrom 0 scope.names []).map (·.1)).Nodup)
    (h : ∀ L h₁ tk cells, Fr s.heap L h₁ (bindL (envOfC qual scope L f cdv).kindOf binds fun _ => none) → News s.heap L h₁ cells →
      CellsAre (bindC (envOfC qual scope L f cdv).kindOf binds fun _ => none) (cellsFrom (L + 1) scope.names []) cells →
      wpAny (model prog w) (A.deeper (envOfC qual scope L f cdv)) (execs body (envOfC qual scope L f cdv))
        (fun fl s' => R (.ok (.ret (match fl with | .ret v => v | _ => .none))) s') (fun _ _ => False) { s with heap := h₁, toks := tk })
    (hco : scope.isCoroutine = false := by rfl) (hgen : scope.isGenerator = false := by rfl) (hk : scope.kind = .function := by rfl) : codeAny (model prog w) A (.call (.ref f) args) R s := by
  refine codeAny_call_function (fd := fnX name qual params body scope [] dV kV doc pm an cdv ct) (body := body) hroom (X _ _ ho) rfl hco hgen rfl (codeRec_of X hcd) (hbind _ _ _ _ ?_)
  refine wpAny_newFunctionEnv_cells hk (hkind _) fun env' he s' x => ?_
  subst he
  refine ⟨hlim.keeps x.toInCall.keep, codeAny_func ?_⟩
  obtain ⟨h₁, tk, rfl, _⟩ := x.done
  obtain ⟨cells, NC, Y⟩ := Cl.news (h₀ := s.heap) (Nat.le_refl _) fun n c hm => ⟨x.cell n c (lookup_of_mem_nodup (cellsFrom_names scope.names 0 (s.heap.objs.size + 1) [] [] rfl ▸ hnd) hm), x.above n c hm⟩
  exact wpAny_mono (h s.heap.objs.size h₁ tk cells ⟨x.toInCall.ns, x.toInCall.keep, Nat.le_refl _⟩ NC Y) (fun _ _ y => y) (fun _ _ y => y.elim)
/-- a block's frame with one cell of its own -/
theorem newEnv1 {M : Model} {A : Around} {E : Value → Shared → Prop} {s : Shared} {n0 y0 a : PySem.Str} {scope : Scope} {cl : List (PySem.Str × Addr)} {env : Env} {globals : Addr} {qual : PySem.Str} {Q : Env → Shared → Prop} (hn : scope.names = [(n0, .local), (a, .cell), (y0, .free)])
    (hQ : ∀ h', h'.Ns s.heap.objs.size (fun _ => none) → (∀ b o, s.heap.get? b = some o → h'.get? b = some o) → h'.get? (s.heap.objs.size + 1) = some { cls := .type "cell", data := .cell none } →
      Q (newEnv scope s.heap.objs.size globals ((a, s.heap.objs.size + 1) :: cl) qual none .none (some env) builtinsNs) { s with heap := h' }) (hkind : scope.kind = .function) :
    wpAny M A (newFunctionEnv scope globals cl [] qual none .none (some env)) Q E s := by
  simp only [newFunctionEnv, Option.isSome_some, if_true, hn]
  refine wpAny_bind (wpAny_alloc ?_)
  refine wpAny_bind ?_
  rw [List.forIn_cons]
  refine wpAny_bind ?_
  rw [if_neg (by show ¬ (NameKind.local == NameKind.cell) = true; decide)]
  refine wpAny_pure ?_
  dsimp only
  rw [List.forIn_cons]
  refine wpAny_bind ?_
  rw [if_pos (by show (NameKind.cell == NameKind.cell) = true; decide)]
  refine wpAny_bind (wpAny_alloc (wpAny_pure ?_))
  dsimp only
  rw [List.forIn_cons]
  refine wpAny_bind ?_
  rw [if_neg (by show ¬ (NameKind.free == NameKind.cell) = true; decide)]
  refine wpAny_pure ?_
  dsimp only
  rw [List.forIn_nil]
  refine wpAny_pure ?_
  rw [List.forIn_nil]
  refine wpAny_bind (wpAny_pure (wpAny_pure ?_))
  have hsz : (s.heap.push { cls := Value.type "dict", data := Data.dict #[] }).objs.size = s.heap.objs.size + 1 := Heap.size_push ..
  have key := hQ _ ((Heap.Ns.new s.heap (.type "dict")).keeps fun b o e => Heap.get?_push_of_some { cls := Value.type "cell", data := Data.cell none } e) (fun b o e => Heap.get?_push_of_some _ (Heap.get?_push_of_some _ e)) (hsz ▸ Heap.get?_push_size _ rfl)
  rw [hsz]
  exact key
namespace CM
open PyProof.Rows.LCg
section
variable {prog : Program} {w : World} {A : Around} {E : Value → Shared → Prop} {s : Shared} {h₀ : Heap} {L : Addr} {m : PySem.Str → Option Value} {env : Env}
theorem coreC {n0 y0 a : PySem.Str} {c : Addr} {elt target iter : Expr} {ifs : List Expr} {scope : Scope} {cl : List (PySem.Str × Addr)} {pos : Pos} {s₂ : Shared} {I : Addr} {fp : List Addr} {n : Nat} {P : Nat → Value → Prop} {St : Nat → Heap → Prop} {news : List (Addr × Obj)} {RR : Value → Addr → Result → Shared → Prop}
    (W : Walks prog w A I fp [I] n P St) (hsz : n ≤ sizeLine) (hIo : ∀ i h, St i h → ∃ o, h.get? I = some o)
    (J : Nat → List Value → List (Addr × Obj) → Prop) (hJl : ∀ i ys nw, J i ys nw → ys.length ≤ i)
    (hfp : ∀ b ∈ fp, b ≠ I → (∃ o, h₀.get? b = some o) ∨ ∃ o, ∀ i ys nw, J i ys nw → (b, o) ∈ nw)
    (hn : scope.names = [(n0, .local), (a, .cell), (y0, .free)]) (hc : c = s₂.heap.objs.size + 2) (hkind : scope.kind = .function) (hst : St 0 s₂.heap) (hfl : ∀ b ∈ fp, b < s₂.heap.objs.size)
    (F : Fr h₀ L s₂.heap m) (N : News h₀ L s₂.heap news) (hIL : L ≠ I) (hI₀ : h₀.get? I = none) (off : ∀ p ∈ news, p.1 ≠ I)
    (hgo : ∀ i (s' : Shared) v (Q' : Unit → Shared → Prop), St i s'.heap → Q' () s' → wpAny (model prog w) A (letOwnedTupleGo target (.ref I) v) Q' (fun _ _ => False) s')
    (J0 : J 0 [] ((c, ({ cls := .type "cell", data := .cell none } : Obj)) :: news))
    (turn : ∀ i v ys nw I oI C oC D m₂ h tk, i < n → P i v → J i ys nw → Fr h₀ L h m → News h₀ L h ((I, oI) :: (C, oC) :: (D, lst ys) :: nw) → NsObj oC m₂ → Off3 I C D nw → ((@Ne Nat I C) ∧ (@Ne Nat I D) ∧ (@Ne Nat C D)) →
      wpAny (model prog w) A (assign target (compEnvC scope ((a, c) :: cl) C env) v) (fun _ s₃ => tests prog w A (compEnvC scope ((a, c) :: cl) C env) ifs (fun ok s₄ => if ok = true then wpAny (model prog w) A (eval elt (compEnvC scope ((a, c) :: cl) C env)) (fun y s₅ => End h₀ L m I oI C D ys (fun nw' => J (i + 1) (ys ++ [y]) nw') s₂ s₅) (fun _ _ => False) s₄
        else End h₀ L m I oI C D ys (fun nw' => J (i + 1) ys nw') s₂ s₄) s₃) (fun _ _ => False) { s₂ with heap := h, toks := tk })
    (hRR : ∀ D C h tk m' ys nw, Fr h₀ L h m → News h₀ L h ((D, lst ys) :: nw) → Off1 D nw → h.Ns C m' → h₀.get? C = none → h₀.get? D = none → C ≠ L → D ≠ L → C ≠ D → (∀ p ∈ nw, p.1 ≠ C) → J n ys nw → RR (.ref D) C (.ok .next) { s₂ with heap := h, toks := tk }) :
    wpAny (model prog w) A (newList []) (fun acc s₃ => wpAny (model prog w) A (newFunctionEnv scope env.globals cl [] env.qual none .none (some env)) (fun cenv s₄ =>
      codeAny (model prog w) A (.compStart (.ListComp elt [⟨target, iter, ifs, 0⟩] scope pos) 0 (.ref I) acc { cenv with scope := relabel scope env }) (RR acc cenv.locals) s₄) E s₃) E s₂ := by
  refine wpAny_newObj_type (newEnv1 hn (fun h₁ hns₁ hk₁ hcc₁ => ?_) hkind)
  dsimp only at hns₁ hk₁ hcc₁ ⊢
  generalize hH2 : s₂.heap.push { cls := .type "list", dict := none, data := .seq ([] : List Value).toArray } = H2 at hns₁ hk₁ hcc₁ ⊢
  have hC : H2.objs.size = s₂.heap.objs.size + 1 := by rw [← hH2, Heap.size_push]
  have hDC : s₂.heap.objs.size ≠ H2.objs.size := by rw [hC]; exact Nat.ne_of_lt (Nat.lt_succ_self _)
  have below : ∀ b, b < s₂.heap.objs.size → b ≠ H2.objs.size ∧ b ≠ s₂.heap.objs.size := fun b hb => ⟨by rw [hC]; exact Nat.ne_of_lt (Nat.lt_succ_of_lt hb), Nat.ne_of_lt hb⟩
  have old : ∀ b o, s₂.heap.get? b = some o → h₁.get? b = some o := fun b o e => hk₁ b o (hH2 ▸ Heap.get?_push_of_some _ e)
  have hacc : h₁.get? s₂.heap.objs.size = some (lst []) := hk₁ _ _ (hH2 ▸ Heap.get?_push_size _ rfl)
  have fresh₀ : ∀ a, s₂.heap.objs.size ≤ a → h₀.get? a = none := fun a ha => by
    cases e : h₀.get? a with
    | none => rfl
    | some o' => exact absurd (Heap.lt_size (F.keep a o' e)) (Nat.not_lt.mpr ha)
  have hIlt : I < s₂.heap.objs.size := hfl I (W.sub I (List.mem_singleton.mpr rfl))
  have hLlt : L < s₂.heap.objs.size := F.ns.lt
  have hD₀ : h₀.get? s₂.heap.objs.size = none := fresh₀ _ (Nat.le_refl _)
  have hC₀ : h₀.get? H2.objs.size = none := fresh₀ _ (by rw [hC]; exact Nat.le_succ _)
  have hDL : s₂.heap.objs.size ≠ L := Ne.symm (below L hLlt).2
  have hCL : H2.objs.size ≠ L := Ne.symm (below L hLlt).1
  have hCI : I ≠ H2.objs.size := (below I hIlt).1
  have hDI : I ≠ s₂.heap.objs.size := (below I hIlt).2
  have hcH : H2.objs.size + 1 = c := by rw [hc, hC]
  rw [hcH] at hcc₁ ⊢
  have hcgt : s₂.heap.objs.size < c := by rw [hc]; exact Nat.lt_add_of_pos_right (by decide)
  have hc₀ : h₀.get? c = none := fresh₀ _ (Nat.le_of_lt hcgt)
  have hcL : c ≠ L := fun e => Nat.lt_asymm hLlt (e ▸ hcgt)
  have off₀ : Off3 I H2.objs.size s₂.heap.objs.size ((c, ({ cls := .type "cell", data := .cell none } : Obj)) :: news) := Off3.of fun p hp => by
    rcases List.mem_cons.mp hp with rfl | hp
    · refine ⟨fun e => ?_, fun e => ?_, fun e => ?_⟩
      · have e : c = I := e
        exact Nat.lt_asymm hIlt (e ▸ hcgt)
      · have e : c = H2.objs.size := e
        rw [← hcH] at e; exact Nat.succ_ne_self _ e
      · have e : c = s₂.heap.objs.size := e
        rw [e] at hcgt; exact Nat.lt_irrefl _ hcgt
    · exact ⟨off p hp, (below _ (Heap.lt_size (N p hp).1)).1, (below _ (Heap.lt_size (N p hp).1)).2⟩
  have hCf : H2.objs.size ∉ fp := fun hm => (below _ (hfl _ hm)).1 rfl
  have hDf : s₂.heap.objs.size ∉ fp := fun hm => (below _ (hfl _ hm)).2 rfl
  clear hc hcH hcgt
  generalize hCC : H2.objs.size = C at *
  generalize hDD : s₂.heap.objs.size = D at *
  have loop : ∀ s₃ : Shared, s₃ = { s₂ with heap := h₁ } →
      codeAny (model prog w) A (.compLoop (.ListComp elt [⟨target, iter, ifs, 0⟩] scope pos) 0 (.ref I) (.ref D) (compEnvC scope ((a, c) :: cl) C env)) (RR (.ref D) C) s₃ := by
    rintro s₃ rfl
    refine loop_any
      (fun k s' => ∃ h' tk i ys m' nw, s' = { s₂ with heap := h', toks := tk } ∧ i ≤ n ∧ k = n + 1 - i ∧ St i h' ∧ Fr h₀ L h' m ∧ h'.Ns C m' ∧ News h₀ L h' ((D, lst ys) :: nw) ∧ Off3 I C D nw ∧ J i ys nw) ?_ (n + 1)
      ⟨h₁, _, 0, [], _, (c, ({ cls := .type "cell", data := .cell none } : Obj)) :: news, rfl, Nat.zero_le _, rfl, W.frame _ _ _ hst fun b _ o e => old b o e, F.keeps old, hns₁, fun p hp => ?_, off₀, J0⟩
    · rintro k s' ⟨h', tk, i, ys, m', nw, rfl, hi, rfl, hst', F', hn', N', off', hJ⟩
      by_cases hlt : i < n
      · refine W.item i _ _ _ hlt hst' fun v h₂ tk₂ hPv hst₂ hk₂ => ?_
        have off3 := off'.mem
        obtain ⟨oI, heI⟩ := hIo _ _ hst₂
        obtain ⟨oC, heC, hoC⟩ := ns_obj (hn'.at' fun o e => hk₂ _ o (by simpa using Ne.symm hCI) e)
        have F₂ : Fr h₀ L h₂ m := fr_but F' hk₂ hIL hI₀
        have N₂ : News h₀ L h₂ ((I, oI) :: (C, oC) :: (D, lst ys) :: nw) := fun p hp => by
          rcases List.mem_cons.mp hp with rfl | hp
          · exact ⟨heI, Ne.symm hIL, hI₀⟩
          · rcases List.mem_cons.mp hp with rfl | hp
            · exact ⟨heC, hCL, hC₀⟩
            · refine news_but N' hk₂ (fun p hp => ?_) p hp
              rcases List.mem_cons.mp hp with rfl | hp
              · exact Ne.symm hDI
              · exact (off3 p hp).1
        have stAfter : ∀ zs h₄ oC4 nw4, News h₀ L h₄ ((I, oI) :: (C, oC4) :: (D, lst ys) :: nw4) → Fr h₀ L h₄ m → J (i + 1) zs nw4 → St (i + 1) h₄ := by
          intro zs h₄ oC4 nw4 N₄ F₄ hJ4
          refine W.frame _ _ _ hst₂ fun b hb o e => ?_
          by_cases hbI : b = I
          · subst hbI
            rw [heI] at e; cases e
            exact (N₄ _ (.head _)).1
          · rcases hfp b hb hbI with ⟨o', ho'⟩ | ⟨o', ho'⟩
            · have : o' = o := by have := F₂.keep b o' ho'; rw [e] at this; exact (Option.some.inj this).symm
              exact this ▸ F₄.keep b o' ho'
            · have e1 := (N₂ (b, o') (.tail _ (.tail _ (.tail _ (ho' _ _ _ hJ))))).1
              have : o' = o := by rw [e] at e1; exact (Option.some.inj e1).symm
              exact this ▸ (N₄ (b, o') (.tail _ (.tail _ (.tail _ (ho' _ _ _ hJ4))))).1
        refine wpAny_mono (hgo (i + 1) { s₂ with heap := h₂, toks := tk₂ } v (fun _ s' => s' = { s₂ with heap := h₂, toks := tk₂ }) hst₂ rfl) (fun _ s' e => ?_) fun _ _ x => x.elim
        subst e
        refine wpAny_mono (turn i v ys nw I oI C oC D _ h₂ tk₂ hlt hPv hJ F₂ N₂ hoC off' ⟨hCI, hDI, Ne.symm hDC⟩) (fun _ s₃ h₃ => wpAny_mono h₃ (fun ok s₄ h₄ => ?_) fun _ _ e => e) fun _ _ e => e
        cases ok with
        | false =>
          simp only [Bool.false_eq_true, if_false] at h₄ ⊢
          obtain ⟨h₄, tk₄, oC4, m₄, nw4, rfl, F₄, N₄, hoC4, off₄, hJ4⟩ := h₄
          exact ⟨n + 1 - (i + 1), by omega, h₄, tk₄, i + 1, ys, m₄, nw4, rfl, hlt, rfl, stAfter _ _ _ _ N₄ F₄ hJ4, F₄, hoC4.ns (N₄ _ (.tail _ (.head _))).1, fun p hp => N₄ p (.tail _ (.tail _ hp)), off₄, hJ4⟩
        | true =>
          simp only [if_true] at h₄ ⊢
          refine wpAny_mono h₄ (fun y s₅ h₅ => ?_) fun _ _ e => e
          obtain ⟨h₄, tk₄, oC4, m₄, nw4, rfl, F₄, N₄, hoC4, off₄, hJ4⟩ := h₅
          have hst₄ := stAfter _ _ _ _ N₄ F₄ hJ4
          refine append_at (hsz := by
            show ys.toArray.size ≤ sizeLine
            have := hJl _ _ _ hJ
            rw [List.size_toArray]; omega) (N₄ _ (.tail _ (.tail _ (.head _)))).1 fun h₅ hs₅ hD₅ => ?_
          have off4 := off₄.mem
          refine ⟨n + 1 - (i + 1), by omega, h₅, tk₄, i + 1, ys ++ [y], m₄, nw4, rfl, hlt, rfl, W.frame _ _ _ hst₄ fun b hb o e => hs₅.extBut b o (fun q => hDf (q ▸ hb)) e, F₄.change hs₅ hDL hD₀,
            (hoC4.ns (N₄ _ (.tail _ (.head _))).1).sameBut hs₅ (Ne.symm hDC), fun p hp => ?_, off₄, hJ4⟩
          rcases List.mem_cons.mp hp with rfl | hp
          · exact ⟨hD₅.trans (congrArg some (lst_snoc ys y)), hDL, hD₀⟩
          · have z := N₄ p (.tail _ (.tail _ (.tail _ hp)))
            exact ⟨hs₅.extBut _ _ (off4 p hp).2.2 z.1, z.2⟩
      · obtain rfl : i = n := Nat.le_antisymm hi (Nat.not_lt.mp hlt)
        refine W.done _ _ _ hst' fun h₂ tk₂ hk₂ => ?_
        have off3 := off'.mem
        exact hRR _ _ h₂ tk₂ _ ys nw (fr_but F' hk₂ hIL hI₀) (news_but N' hk₂ fun p hp => by
          rcases List.mem_cons.mp hp with rfl | hp
          · exact Ne.symm hDI
          · exact (off3 p hp).1) off'.one (hn'.at' fun o e => hk₂ _ o (by simpa using Ne.symm hCI) e) hC₀ hD₀ hCL hDL (Ne.symm hDC) (fun p hp => (off3 p hp).2.1) hJ
    · rcases List.mem_cons.mp hp with rfl | hp
      · exact ⟨hacc, hDL, hD₀⟩
      · rcases List.mem_cons.mp hp with rfl | hp
        · exact ⟨hcc₁, hcL, hc₀⟩
        · exact ⟨old _ _ (N p hp).1, (N p hp).2⟩
  exact codeAny_compStart_list (loop _ rfl) (W.self 0 _ _ _ (W.frame _ _ _ hst fun b _ o e => old b o e) (loop _ rfl))
/-- as CM.Src, for a block that keeps its one target in a cell c -/
def SrcC (a : PySem.Str) (prog : Program) (w : World) (A : Around) (h₀ : Heap) (L : Addr) (m : PySem.Str → Option Value) (env : Env) (target elt : Expr) (ifs : List Expr) (scope : Scope) (cl : List (PySem.Str × Addr)) (Fin : Nat → (Nat → List Value → List (Addr × Obj) → Prop) → Shared → Prop) (xv : Value) (s₁ : Shared) : Prop :=
  ∀ c : Addr, s₁.heap.objs.size < c → ∃ (n : Nat) (P : Nat → Value → Prop) (foot : List Addr) (news : List (Addr × Obj)) (J : Nat → List Value → List (Addr × Obj) → Prop),
      IterAt prog w A target xv P n foot s₁ ∧ n ≤ sizeLine ∧ Fr h₀ L s₁.heap m ∧ News h₀ L s₁.heap news ∧ (∀ b ∈ foot, b < s₁.heap.objs.size ∧ ((∃ o, h₀.get? b = some o) ∨ ∃ o, ∀ i ys nw, J i ys nw → (b, o) ∈ nw)) ∧ (∀ i ys nw, J i ys nw → ys.length ≤ i) ∧ J 0 [] ((c, ({ cls := .type "cell", data := .cell none } : Obj)) :: news) ∧
      (∀ i v ys nw I oI C oC D m₂ h tk, i < n → P i v → J i ys nw → Fr h₀ L h m → News h₀ L h ((I, oI) :: (C, oC) :: (D, lst ys) :: nw) → NsObj oC m₂ → Off3 I C D nw → ((@Ne Nat I C) ∧ (@Ne Nat I D) ∧ (@Ne Nat C D)) →
        wpAny (model prog w) A (assign target (compEnvC scope ((a, c) :: cl) C env) v) (fun _ s₃ => tests prog w A (compEnvC scope ((a, c) :: cl) C env) ifs (fun ok s₄ => if ok = true then wpAny (model prog w) A (eval elt (compEnvC scope ((a, c) :: cl) C env)) (fun y s₅ => End h₀ L m I oI C D ys (fun nw' => J (i + 1) (ys ++ [y]) nw') s₁ s₅) (fun _ _ => False) s₄
          else End h₀ L m I oI C D ys (fun nw' => J (i + 1) ys nw') s₁ s₄) s₃) (fun _ _ => False) { s₁ with heap := h, toks := tk }) ∧
      Fin n J s₁
/-- a comprehension's value, by a word J of what stands after each turn -/
theorem exprC {n0 y0 a : PySem.Str} {elt target iter : Expr} {ifs : List Expr} {scope : Scope} {cl : List (PySem.Str × Addr)} {pos : Pos} {Q : Value → Shared → Prop} (F₀ : Fr h₀ L s.heap m)
    (hclos : closureFor scope env = pure cl) (hn : scope.names = [(n0, .local), (a, .cell), (y0, .free)]) (hkind : scope.kind = .function) (hnames : ∀ y ∈ scope.names, y.2 = .local → scope.names.lookup y.1 = some .local)
    (h : wpAny (model prog w) A (eval iter env) (SrcC a prog w A h₀ L m env target elt ifs scope cl (fun n J s₁ => ∀ D ys nw h tk, J n ys nw → Fr h₀ L h m → News h₀ L h ((D, lst ys) :: nw) → Off1 D nw → Q (.ref D) { s₁ with heap := h, toks := tk })) E s)
    (hs : ∀ x, foldedSetIterable iter env x = pure x := by intro _; rfl) :
    wpAny (model prog w) A (eval (.ListComp elt [⟨target, iter, ifs, 0⟩] scope pos) env) Q E s := by
  rw [eval_ListComp]
  refine wpAny_comprehension_free (use := none) rfl hs hclos hkind hnames (wpAny_mono h (fun xv s₁ h₁ => ?_) fun _ _ e => e)
  obtain ⟨n, P, foot, news, J, hIt, hsz, F, N, hf, hJl, J0, turn, fin⟩ := h₁ (s₁.heap.objs.size + 3) (Nat.lt_add_of_pos_right (by decide))
  refine hIt _ _ fun o St hof W hlive hgo hst => ?_
  have up : ∀ b x, s₁.heap.get? b = some x → (s₁.heap.push o).get? b = some x := fun b x e => Heap.get?_push_of_some _ e
  refine coreC W hsz hlive J hJl (fun b hb hbI => ?_) hn (by show _ = (s₁.heap.push o).objs.size + 2; rw [Heap.size_push]) hkind hst (fun b hb => ?_) (F.keeps up) (N.grown up) (Nat.ne_of_lt F.ns.lt) (next_is_new F) (fun p hp => Nat.ne_of_lt (Heap.lt_size (N p hp).1)) hgo J0 turn ?_
  · rcases List.mem_cons.mp hb with rfl | hb
    · exact absurd rfl hbI
    · exact (hf b hb).2
  · show b < (s₁.heap.push _).objs.size
    rw [Heap.size_push]
    rcases List.mem_cons.mp hb with rfl | hb
    · exact Nat.lt_succ_self _
    · exact Nat.lt_succ_of_lt (hf b hb).1
  · intro D C h tk m' ys nw F' N' o1 hn hC₀ hD₀ hCL hDL hCD offC hJ
    refine ⟨m', hn, fun h'' hs'' => fin D ys nw h'' tk hJ (F'.change hs'' hCL hC₀) (fun p hp => ?_) o1⟩
    refine ⟨hs''.extBut _ _ ?_ (N' p hp).1, (N' p hp).2⟩
    rcases List.mem_cons.mp hp with rfl | hp
    · exact Ne.symm hCD
    · exact offC p hp
end
end CM
end
-- F20
section
variable {w : World} {A : Around} {s : Shared}
theorem kind_spec (B : Bas w s.heap) (H : Room A 2) (v : Value) (hv : Plainv v) :
    codeAny (model PySem.Challenge.pw_bk5003_01 w) A (.call (.ref 537) ⟨[v], []⟩) (Ret s fun r _ => ∃ t, r = .str (kindS v) t) s := by
  obtain ⟨X, p, loose, mean, mg, mb, T⟩ := B
  cases v with
  | bool b =>
    (k_dflt (refine' enter (binds := [(PySem.Str.ofString "value", .bool b)]) ?k1 ?k2 ?k6 ?k7 ?k8 ?k9 ?kB ?_ ?c2 ?c3 ?c4 ?c5; (case k1 => k_asm); (case k2 => exact Top.nolimit (by assumption)); (case k6 => k_is); (case k7 => k_is); (case k8 => first | exact Nat.lt_of_le_of_lt (Nat.le_add_right _ _) (Room.hd (by assumption)) | (have hR9 := Room.hd (by assumption); omega)); (case k9 => first | exact hb9 _ _ _ _ (by k_is) | exact BindsTo.of_eq rfl | exact binds_K (by k_in) rfl (by k_is) rfl rfl rfl); (case c5 => decide); (case kB => exact locs rfl); (case c2 => exact rfl); (case c3 => exact rfl); (case c4 => exact rfl)); intro L' h' F' N'; (try dsimp only); (try k_fold))
    walk_at "mine go"
    (exact ⟨_, _, _, [], rfl, rfl, Fr.keep (by assumption), (fun _ h => nomatch h), _, rfl⟩)
  | int i t =>
    (k_dflt (refine' enter (binds := [(PySem.Str.ofString "value", .int i t)]) ?k1 ?k2 ?k6 ?k7 ?k8 ?k9 ?kB ?_ ?c2 ?c3 ?c4 ?c5; (case k1 => k_asm); (case k2 => exact Top.nolimit (by assumption)); (case k6 => k_is); (case k7 => k_is); (case k8 => first | exact Nat.lt_of_le_of_lt (Nat.le_add_right _ _) (Room.hd (by assumption)) | (have hR9 := Room.hd (by assumption); omega)); (case k9 => first | exact hb9 _ _ _ _ (by k_is) | exact BindsTo.of_eq rfl | exact binds_K (by k_in) rfl (by k_is) rfl rfl rfl); (case c5 => decide); (case kB => exact locs rfl); (case c2 => exact rfl); (case c3 => exact rfl); (case c4 => exact rfl)); intro L' h' F' N'; (try dsimp only); (try k_fold))
    walk_at "mine go"
    (exact ⟨_, _, _, [], rfl, rfl, Fr.keep (by assumption), (fun _ h => nomatch h), _, rfl⟩)
  | bytes b t =>
    (k_dflt (refine' enter (binds := [(PySem.Str.ofString "value", .bytes b t)]) ?k1 ?k2 ?k6 ?k7 ?k8 ?k9 ?kB ?_ ?c2 ?c3 ?c4 ?c5; (case k1 => k_asm); (case k2 => exact Top.nolimit (by assumption)); (case k6 => k_is); (case k7 => k_is); (case k8 => first | exact Nat.lt_of_le_of_lt (Nat.le_add_right _ _) (Room.hd (by assumption)) | (have hR9 := Room.hd (by assumption); omega)); (case k9 => first | exact hb9 _ _ _ _ (by k_is) | exact BindsTo.of_eq rfl | exact binds_K (by k_in) rfl (by k_is) rfl rfl rfl); (case c5 => decide); (case kB => exact locs rfl); (case c2 => exact rfl); (case c3 => exact rfl); (case c4 => exact rfl)); intro L' h' F' N'; (try dsimp only); (try k_fold))
    walk_at "mine go"
    (exact ⟨_, _, _, [], rfl, rfl, Fr.keep (by assumption), (fun _ h => nomatch h), _, rfl⟩)
  | str b t =>
    (k_dflt (refine' enter (binds := [(PySem.Str.ofString "value", .str b t)]) ?k1 ?k2 ?k6 ?k7 ?k8 ?k9 ?kB ?_ ?c2 ?c3 ?c4 ?c5; (case k1 => k_asm); (case k2 => exact Top.nolimit (by assumption)); (case k6 => k_is); (case k7 => k_is); (case k8 => first | exact Nat.lt_of_le_of_lt (Nat.le_add_right _ _) (Room.hd (by assumption)) | (have hR9 := Room.hd (by assumption); omega)); (case k9 => first | exact hb9 _ _ _ _ (by k_is) | exact BindsTo.of_eq rfl | exact binds_K (by k_in) rfl (by k_is) rfl rfl rfl); (case c5 => decide); (case kB => exact locs rfl); (case c2 => exact rfl); (case c3 => exact rfl); (case c4 => exact rfl)); intro L' h' F' N'; (try dsimp only); (try k_fold))
    walk_at "mine go"
    (exact ⟨_, _, _, [], rfl, rfl, Fr.keep (by assumption), (fun _ h => nomatch h), _, rfl⟩)
  | _ => exact hv.elim
end
-- F21
section
/-- a value's rank, as the law reckons it -/
def rankV : Value → List Int
  | .str y _ => y.cps.toList.map fun (c : Nat) => (c : Int)
  | .bytes b _ => b.toList.map fun c => (c.toNat : Int)
  | .bool b => [if b = true then 1 else 0]
  | .int i _ => [if i ≥ 0 then 0 else 1, i]
  | _ => []
def RankAt (own : List (Addr × Obj)) (r : Addr) (R : List Int) : Prop := ∃ vs nn, (r, ({ cls := .type "tuple", data := .seq (List.toArray vs) nn } : Obj)) ∈ own ∧ IntsAre vs R
theorem RankAt.mono {own own' : List (Addr × Obj)} {r : Addr} {R : List Int} (x : RankAt own r R) (h : ∀ p ∈ own, p ∈ own') : RankAt own' r R := let ⟨vs, nn, a, b⟩ := x; ⟨vs, nn, h _ a, b⟩
def RankOut (vs : List Value) (v : Value) (own : List (Addr × Obj)) : Prop :=
  ∃ (T : Addr) (rs : List Addr) (nn : Nat), v = .ref T ∧ (T, ({ cls := .type "tuple", data := .seq (rs.map Value.ref).toArray nn } : Obj)) ∈ own ∧ rs.length = vs.length ∧ ∀ (j : Nat) (r : Addr) (x : Value), rs[j]? = some r → vs[j]? = some x → RankAt own r (rankV x)
theorem News.rank4 {h₀ h : Heap} {L : Addr} {a b c d : Addr × Obj} {r : List (Addr × Obj)} (N : News h₀ L h (a :: b :: c :: d :: r)) : News h₀ L h (c :: d :: a :: r) := by
  intro p hp
  refine N p ?_
  rcases List.mem_cons.mp hp with rfl | hp
  · exact .tail _ (.tail _ (.head _))
  · rcases List.mem_cons.mp hp with rfl | hp
    · exact .tail _ (.tail _ (.tail _ (.head _)))
    · rcases List.mem_cons.mp hp with rfl | hp
      · exact .head _
      · exact .tail _ (.tail _ (.tail _ (.tail _ hp)))
theorem News.rank3 {h₀ h : Heap} {L : Addr} {a c d : Addr × Obj} {r : List (Addr × Obj)} (N : News h₀ L h (a :: c :: d :: r)) : News h₀ L h (c :: d :: a :: r) := by
  intro p hp
  refine N p ?_
  rcases List.mem_cons.mp hp with rfl | hp
  · exact .tail _ (.head _)
  · rcases List.mem_cons.mp hp with rfl | hp
    · exact .tail _ (.tail _ (.head _))
    · rcases List.mem_cons.mp hp with rfl | hp
      · exact .head _
      · exact .tail _ (.tail _ (.tail _ hp))
theorem map_ref_snoc (rs : List Addr) (T : Addr) : rs.map Value.ref ++ [Value.ref T] = (rs ++ [T]).map Value.ref := by simp
theorem rank_turn {vs : List Value} {rs : List Addr} {own : List (Addr × Obj)} {I O T : Addr} {oI o0 : Obj} {nn2 nt j : Nat} {v : Value} {ts : List Value} {Pm : Prop} (hoff : PySem.W.OwnOff own [O]) (hrl : rs.length = j)
    (hrk : ∀ (j : Nat) (r : Addr) (x : Value), rs[j]? = some r → vs[j]? = some x → RankAt own r (rankV x)) (hvj : vs[j]? = some v) (hints : IntsAre ts (rankV v)) (hI : ∀ p ∈ (O, o0) :: own, p.1 ≠ I) (l1 : @LT.lt Nat _ I T) (l2 : @LT.lt Nat _ O T) (hm : Pm) :
    ∃ nx, (I, oI) :: (O, listOf ((rs ++ [T]).map Value.ref).toArray nn2) :: (T, ({ cls := .type "tuple", data := .seq (List.toArray ts) nt } : Obj)) :: own = (I, oI) :: nx ∧ (∀ p ∈ nx, p.1 ≠ I) ∧
      ∃ (rs' : List Addr) (nn : Nat) (own' : List (Addr × Obj)), nx = (O, listOf (rs'.map Value.ref).toArray nn) :: own' ∧ PySem.W.OwnOff own' [O] ∧ rs'.length = j + 1 ∧ (∀ (j : Nat) (r : Addr) (x : Value), rs'[j]? = some r → vs[j]? = some x → RankAt own' r (rankV x)) ∧ Pm := by
  refine ⟨_, rfl, ?_, rs ++ [T], nn2, _, rfl, ?_, by rw [List.length_append, hrl]; rfl, ?_, hm⟩
  · intro p hp
    rcases List.mem_cons.mp hp with rfl | hp
    · exact hI (O, o0) (.head _)
    · rcases List.mem_cons.mp hp with rfl | hp
      · exact Nat.ne_of_gt l1
      · exact hI p (.tail _ hp)
  · intro p hp b hb
    rw [List.mem_singleton.mp hb]
    rcases List.mem_cons.mp hp with rfl | hp
    · exact Nat.ne_of_gt l2
    · exact hoff p hp O (.head _)
  · intro i r x hr hx
    rcases Nat.lt_or_ge i rs.length with hlt | hge
    · rw [List.getElem?_append_left hlt] at hr
      exact (hrk i r x hr hx).mono fun p hp => .tail _ hp
    · rw [List.getElem?_append_right hge] at hr
      have h0 : i - rs.length = 0 := by
        rcases Nat.eq_zero_or_pos (i - rs.length) with h | h
        · exact h
        · rw [List.getElem?_eq_none (by simp only [List.length_cons, List.length_nil]; omega)] at hr; cases hr
      have hi : i = j := by omega
      rw [h0] at hr
      cases hr
      subst hi
      rw [hvj] at hx; cases hx
      exact ⟨ts, nt, .head _, hints⟩
variable {w : World} {A : Around} {s : Shared}
theorem rank_spec (B : Bas w s.heap) (H : Room A 3) (vr : Addr) (vs : List Value) (hv : ∀ v ∈ vs, Plainv v) (hl : vs.length ≤ 10) (hz : ∀ v ∈ vs, (rankV v).length ≤ 1000) (hs : s.heap.IsList vr vs.toArray ∨ IsTup s.heap vr vs.toArray) :
    codeAny (model PySem.Challenge.pw_bk5003_01 w) A (.call (.ref 542) ⟨[.ref vr], []⟩) (Ret s (RankOut vs)) s := by
  obtain ⟨X, p, loose, mean, mg, mb, T⟩ := B
  (k_dflt (refine' enter (binds := [(PySem.Str.ofString "values", .ref vr)]) ?k1 ?k2 ?k6 ?k7 ?k8 ?k9 ?kB ?_ ?c2 ?c3 ?c4 ?c5; (case k1 => k_asm); (case k2 => exact Top.nolimit (by assumption)); (case k6 => k_is); (case k7 => k_is); (case k8 => first | exact Nat.lt_of_le_of_lt (Nat.le_add_right _ _) (Room.hd (by assumption)) | (have hR9 := Room.hd (by assumption); omega)); (case k9 => first | exact hb9 _ _ _ _ (by k_is) | exact BindsTo.of_eq rfl | exact binds_K (by k_in) rfl (by k_is) rfl rfl rfl); (case c5 => decide); (case kB => exact locs rfl); (case c2 => exact rfl); (case c3 => exact rfl); (case c4 => exact rfl)); intro L' h' F' N'; (try dsimp only); (try k_fold))
  refine cut_stmt (h₀ := s.heap) (L := L') (fun m nw => ∃ O, nw = [(O, listOf (([] : List Addr).map Value.ref).toArray 0)] ∧ MR m (PySem.Str.ofString "out") O ∧ MR m (PySem.Str.ofString "values") vr) ?_ ?_
  · walk_at "mine go"
    (rename Fr _ _ _ _ => kF); (rename News _ _ _ _ => kN)
    exact Turn.mk' kF kN ⟨_, rfl, by walk_at "mine look", by walk_at "mine look"⟩
  rintro h0 tk0 m0 nw0 kF kN ⟨O, rfl, m0, m9⟩
  clear F' N'
  (try k_fold)
  walk_at "mine go"
  (rename Fr _ _ _ _ => kF); (rename News _ _ _ _ => kN)
  refine for_stmt ?_ (fun _ => rfl)
  walk_at "mine go"
  (rename Fr _ _ _ _ => kF); (rename News _ _ _ _ => kN)
  have It : ∀ (s' : Shared) (x : PySem.Str) (px : Pos) (A' : Around), A'.handled = none → (∀ b o, s.heap.get? b = some o → s'.heap.get? b = some o) → CM.IterAt PySem.Challenge.pw_bk5003_01 w A' (.Name x px) (.ref vr) (fun i v => vs[i]? = some v) vs.length [vr] s' := fun s' x px A' hh hk =>
    hs.elim (fun h => CM.iter_list hh (h.at fun o e => hk _ _ e)) (fun h => CM.iter_tup hh (h.keeps hk))
  have hvr : ∃ o, s.heap.get? vr = some o := hs.elim (fun ⟨o, h, _⟩ => ⟨o, h⟩) (fun ⟨o, h, _⟩ => ⟨o, h⟩)
  refine for_it (L := L') rfl (It _ _ _ _ (Room.hhd H) kF.keep) (fun I k m news => ∃ (rs : List Addr) (nn : Nat) (own : List (Addr × Obj)), news = (O, listOf (rs.map Value.ref).toArray nn) :: own ∧ OwnOff own [O] ∧ rs.length = k ∧ (∀ (j : Nat) (r : Addr) (x : Value), rs[j]? = some r → vs[j]? = some x → RankAt own r (rankV x)) ∧ MR m (PySem.Str.ofString "out") O) kF kN
    (fun b hb => by rw [List.mem_singleton.mp hb]; exact .inl hvr) (fun I _ => ⟨[], 0, [], rfl, (fun p hp => nomatch hp), rfl, (fun j r x h => by cases h), by walk_at "mine look"⟩) ?_ ?_
  · clear kF kN
    rintro I j v m news h tk oI hj hvj ⟨rs, nn, own, rfl, hoff, hrl, hrk, m1⟩ kF kN hI
    (try k_fold)
    have hpv := hv v (List.mem_of_getElem? hvj)
    have hOI : @Ne Nat O I := hI _ (.head _)
    have hIO : @Ne Nat I O := fun e => hOI e.symm
    cases v with
    | str y t =>
      have hyl := hz _ (List.mem_of_getElem? hvj)
      have hyl2 : y.cps.size ≤ 1000 := by simpa [rankV] using hyl
      walk_at "mine go"
      (rename Fr _ _ _ _ => kF'); (rename News _ _ _ _ => kN')
      refine CM.expr (F₀ := kF') (by with_unfolding_all rfl) (by decide) (by rfl) (by decide) ?_
      walk_at "mine go"
      refine ⟨_, _, _, _, (fun i ys nw => nw = _ ∧ IntsAre ys ((y.cps.toList.take i).map fun (c : Nat) => (c : Int))), CM.iter_str (Room.hhd H), ?_, kF', kN', (fun b hb => nomatch hb), ?_, ⟨rfl, .nil⟩, ?_, ?_⟩
      · rw [sizeLine_eq]; omega
      · rintro i ys nw ⟨_, hy⟩
        have := hy.length
        rw [List.length_map, List.length_take] at this
        omega
      · rintro i v ys nw I1 oI1 C oC D m₂ h2 tk2 hi ⟨c, u, hc, rfl⟩ ⟨rfl, hys⟩ F2 N2 hC off ne
        refine CM.asg_name F2 N2 hC ne.1 (CM.offC ne off) (by rfl) (by rfl) ?_
        intro h3 oC3 tk3 F3 N3 hC3
        refine wpAny_tests_nil ?_
        simp only [if_true]
        walk_at "mine go"
        refine CM.End.mk' F3 N3 hC3 (fun _ h => h) off ⟨rfl, ?_⟩
        rw [List.take_add_one, show y.cps.toList[i]? = some c by rw [Array.getElem?_toList]; exact hc, List.map_append]
        exact ints_snoc hys rfl
      · rintro D ys nw h2 tk2 ⟨rfl, hys⟩ F2 N2 o1
        rw [show y.cps.toList.take y.cps.size = y.cps.toList by rw [← Array.length_toList, List.take_length]] at hys
        have hyl3 : ys.length ≤ 1000 := by
          have h9 := hys.length
          simp only [List.length_map, Array.length_toList] at h9
          omega
        clear kF' kN'
        obtain ⟨oa, ob, oc⟩ := o1
        have ob' : @Ne Nat D O := fun e => ob e.symm
        walk_at "mine go"
        (rename Fr _ _ _ _ => kF'); (rename News _ _ _ _ => kN')
        simp only [List.push_toArray, map_ref_snoc] at kN'
        obtain ⟨T, nt, nn2, kN2, l1, l2⟩ : ∃ T nt nn2, News s.heap L' _ ((I, oI) :: (O, listOf ((rs ++ [T]).map Value.ref).toArray nn2) :: (T, ({ cls := .type "tuple", data := .seq (List.toArray ys) nt } : Obj)) :: own) ∧ @LT.lt Nat _ I T ∧ @LT.lt Nat _ O T := ⟨_, _, _, News.rank4 kN', by omega, by omega⟩
        exact Turn.mk' kF' kN2 (rank_turn hoff hrl hrk hvj hys hI l1 l2 (by walk_at "mine look"))
    | bytes b t =>
      have hyl := hz _ (List.mem_of_getElem? hvj)
      have hyl2 : b.size ≤ 1000 := by simpa [rankV] using hyl
      walk_at "mine go"
      (rename Fr _ _ _ _ => kF'); (rename News _ _ _ _ => kN')
      refine CM.expr (F₀ := kF') (by with_unfolding_all rfl) (by decide) (by rfl) (by decide) ?_
      walk_at "mine go"
      refine ⟨_, _, _, _, (fun i ys nw => nw = _ ∧ IntsAre ys ((b.toList.take i).map fun c => (c.toNat : Int))), CM.iter_bytes (Room.hhd H), ?_, kF', kN', (fun b hb => nomatch hb), ?_, ⟨rfl, .nil⟩, ?_, ?_⟩
      · rw [sizeLine_eq]; omega
      · rintro i ys nw ⟨_, hy⟩
        have := hy.length
        rw [List.length_map, List.length_take] at this
        omega
      · rintro i v ys nw I1 oI1 C oC D m₂ h2 tk2 hi ⟨c, u, hc, rfl⟩ ⟨rfl, hys⟩ F2 N2 hC off ne
        refine CM.asg_name F2 N2 hC ne.1 (CM.offC ne off) (by rfl) (by rfl) ?_
        intro h3 oC3 tk3 F3 N3 hC3
        refine wpAny_tests_nil ?_
        simp only [if_true]
        walk_at "mine go"
        refine CM.End.mk' F3 N3 hC3 (fun _ h => h) off ⟨rfl, ?_⟩
        rw [List.take_add_one, show b.toList[i]? = some c by rw [Array.getElem?_toList]; exact hc, List.map_append]
        exact ints_snoc hys rfl
      · rintro D ys nw h2 tk2 ⟨rfl, hys⟩ F2 N2 o1
        rw [show b.toList.take b.size = b.toList by rw [← Array.length_toList, List.take_length]] at hys
        have hyl3 : ys.length ≤ 1000 := by
          have h9 := hys.length
          simp only [List.length_map, Array.length_toList] at h9
          omega
        clear kF' kN'
        obtain ⟨oa, ob, oc⟩ := o1
        have ob' : @Ne Nat D O := fun e => ob e.symm
        walk_at "mine go"
        (rename Fr _ _ _ _ => kF'); (rename News _ _ _ _ => kN')
        simp only [List.push_toArray, map_ref_snoc] at kN'
        obtain ⟨T, nt, nn2, kN2, l1, l2⟩ : ∃ T nt nn2, News s.heap L' _ ((I, oI) :: (O, listOf ((rs ++ [T]).map Value.ref).toArray nn2) :: (T, ({ cls := .type "tuple", data := .seq (List.toArray ys) nt } : Obj)) :: own) ∧ @LT.lt Nat _ I T ∧ @LT.lt Nat _ O T := ⟨_, _, _, News.rank4 kN', by omega, by omega⟩
        exact Turn.mk' kF' kN2 (rank_turn hoff hrl hrk hvj hys hI l1 l2 (by walk_at "mine look"))
    | bool b =>
      walk_at "mine go"
      · (rename Fr _ _ _ _ => kF'); (rename News _ _ _ _ => kN')
        simp only [List.push_toArray, map_ref_snoc] at kN'
        obtain ⟨T, u, nt, nn2, kN2, l1, l2⟩ : ∃ T u nt nn2, News s.heap L' _ ((I, oI) :: (O, listOf ((rs ++ [T]).map Value.ref).toArray nn2) :: (T, ({ cls := .type "tuple", data := .seq (List.toArray [.int 1 u]) nt } : Obj)) :: own) ∧ @LT.lt Nat _ I T ∧ @LT.lt Nat _ O T := ⟨_, _, _, _, News.rank3 kN', by omega, by omega⟩
        refine Turn.mk' kF' kN2 (rank_turn hoff hrl hrk hvj ?_ hI l1 l2 (by walk_at "mine look"))
        show IntsAre _ [if b = true then 1 else 0]
        rw [if_pos (by assumption)]
        exact .cons _ _ .nil
      · (rename Fr _ _ _ _ => kF'); (rename News _ _ _ _ => kN')
        simp only [List.push_toArray, map_ref_snoc] at kN'
        obtain ⟨T, u, nt, nn2, kN2, l1, l2⟩ : ∃ T u nt nn2, News s.heap L' _ ((I, oI) :: (O, listOf ((rs ++ [T]).map Value.ref).toArray nn2) :: (T, ({ cls := .type "tuple", data := .seq (List.toArray [.int 0 u]) nt } : Obj)) :: own) ∧ @LT.lt Nat _ I T ∧ @LT.lt Nat _ O T := ⟨_, _, _, _, News.rank3 kN', by omega, by omega⟩
        refine Turn.mk' kF' kN2 (rank_turn hoff hrl hrk hvj ?_ hI l1 l2 (by walk_at "mine look"))
        show IntsAre _ [if b = true then 1 else 0]
        rw [if_neg (Bool.eq_false_iff.mp (by assumption))]
        exact .cons _ _ .nil
    | int i t =>
      walk_at "mine go"
      · (rename Fr _ _ _ _ => kF'); (rename News _ _ _ _ => kN')
        simp only [List.push_toArray, map_ref_snoc] at kN'
        obtain ⟨T, u, nt, nn2, kN2, l1, l2⟩ : ∃ T u nt nn2, News s.heap L' _ ((I, oI) :: (O, listOf ((rs ++ [T]).map Value.ref).toArray nn2) :: (T, ({ cls := .type "tuple", data := .seq (List.toArray [.int 0 u, .int i t]) nt } : Obj)) :: own) ∧ @LT.lt Nat _ I T ∧ @LT.lt Nat _ O T := ⟨_, _, _, _, News.rank3 kN', by omega, by omega⟩
        refine Turn.mk' kF' kN2 (rank_turn hoff hrl hrk hvj ?_ hI l1 l2 (by walk_at "mine look"))
        show IntsAre _ [if i ≥ 0 then 0 else 1, i]
        rw [if_pos (by assumption)]
        exact .cons _ _ (.cons _ _ .nil)
      · (rename Fr _ _ _ _ => kF'); (rename News _ _ _ _ => kN')
        simp only [List.push_toArray, map_ref_snoc] at kN'
        obtain ⟨T, u, nt, nn2, kN2, l1, l2⟩ : ∃ T u nt nn2, News s.heap L' _ ((I, oI) :: (O, listOf ((rs ++ [T]).map Value.ref).toArray nn2) :: (T, ({ cls := .type "tuple", data := .seq (List.toArray [.int 1 u, .int i t]) nt } : Obj)) :: own) ∧ @LT.lt Nat _ I T ∧ @LT.lt Nat _ O T := ⟨_, _, _, _, News.rank3 kN', by omega, by omega⟩
        refine Turn.mk' kF' kN2 (rank_turn hoff hrl hrk hvj ?_ hI l1 l2 (by walk_at "mine look"))
        show IntsAre _ [if i ≥ 0 then 0 else 1, i]
        rw [if_neg (by assumption)]
        exact .cons _ _ (.cons _ _ .nil)
    | _ => exact hpv.elim
  · clear kF kN
    rintro I m news h tk ⟨rs, nn, own, rfl, hoff, hrl, hrk, m1⟩ kF kN
    (try k_fold)
    walk_at "mine go"
    (rename Fr _ _ _ _ => kF'); (rename News _ _ _ _ => kN')
    refine ⟨_, _, _, _, rfl, rfl, Fr.keep kF', (fun p hp => ⟨(kN' p hp).1, (kN' p hp).2.2⟩), _, rs, _, rfl, .head _, hrl, fun j r x hr hx => (hrk j r x hr hx).mono fun p hp => .tail _ (.tail _ hp)⟩
end
-- I4
section
/-- the law's groups: a list of pairs, a kind's sign and a width -/
def Groups (h : Heap) (gl : Addr) (its : List Item) : Prop :=
  ∃ rs : List Addr, h.IsList gl (rs.map Value.ref).toArray ∧ rs.length = its.length ∧ ∀ (j : Nat) (it : Item) (r : Addr), its[j]? = some it → rs[j]? = some r → ∃ t u, IsTup h r [.str (RS.tx [it.k.sign]) t, .int (it.W : Int) u].toArray
theorem Groups.ext {h h' : Heap} {gl : Addr} {its : List Item} (G : Groups h gl its) (e : Ext h h') : Groups h' gl its := by
  obtain ⟨rs, ⟨o, ho, r⟩, a, b⟩ := G
  exact ⟨rs, ⟨o, e _ _ ho, r⟩, a, fun j it r h1 h2 => let ⟨t, u, x⟩ := b j it r h1 h2; ⟨t, u, x.keeps e⟩⟩
/-- what a group of the law may be -/
def ItOk (it : Item) : Prop := 1 ≤ it.W ∧ it.W ≤ 100 ∧ (it.k = .t → it.W % 8 = 0 ∧ 64 ≤ it.W)
def TextOk : Value → Prop
  | .str y _ => y.cps.size ≤ 2 ∧ ∀ c ∈ y.cps.toList, 1 ≤ c ∧ c < 1114112
  | _ => True
theorem Vals.cons {it : Item} {its : List Item} {Ns : List Nat} {vs : List Value} {N : Nat} (V : Vals its Ns vs) (hn : N < 2 ^ it.W) {v : Value} (hp : it.k.pad = false) (hv : Val it.k it.W N v) : Vals (it :: its) (N :: Ns) (v :: vs) := by
  have hc : ∀ j, cnt (it :: its) (j + 1) = cnt its j + 1 := by
    intro j
    unfold cnt
    rw [List.take_succ_cons, List.filter_cons_of_pos (by rw [hp]; rfl), List.length_cons]
  refine ⟨by rw [List.length_cons, List.length_cons, V.1], by rw [List.length_cons, List.length_cons, hc, V.2.1], ?_⟩
  intro j it' N' h1 h2
  cases j with
  | zero =>
    cases h1; cases h2
    refine ⟨hn, fun h => (by rw [h] at hp; cases hp), fun h => (by rw [h] at hp; cases hp), fun _ => ⟨v, ?_, hv⟩⟩
    show (v :: vs)[cnt (it :: its) 0]? = some v
    rfl
  | succ j =>
    obtain ⟨a, b, c, d⟩ := V.2.2 j it' N' h1 h2
    refine ⟨a, b, c, fun h => ?_⟩
    obtain ⟨u, hu1, hu2⟩ := d h
    exact ⟨u, by rw [hc]; exact hu1, hu2⟩
def padN : Kd → Nat → Nat
  | .q, W => 2 ^ W - 1
  | _, _ => 0
theorem Vals.consP {it : Item} {its : List Item} {Ns : List Nat} {vs : List Value} (V : Vals its Ns vs) (hk : it.k = .p ∨ it.k = .q) : Vals (it :: its) (padN it.k it.W :: Ns) vs := by
  have hp : it.k.pad = true := by rcases hk with h | h <;> rw [h] <;> rfl
  have hc : ∀ j, cnt (it :: its) (j + 1) = cnt its j := by
    intro j
    unfold cnt
    rw [List.take_succ_cons, List.filter_cons_of_neg (by rw [hp]; decide)]
  refine ⟨by rw [List.length_cons, List.length_cons, V.1], by rw [List.length_cons, hc, V.2.1], ?_⟩
  intro j it' N' h1 h2
  cases j with
  | zero =>
    cases h1; cases h2
    have h0 := Nat.two_pow_pos it.W
    refine ⟨?_, fun h => by rw [h]; rfl, fun h => by rw [h]; rfl, fun h => (by rw [hp] at h; cases h)⟩
    rcases hk with h | h <;> rw [h] <;> unfold padN <;> simp only <;> omega
  | succ j =>
    obtain ⟨a, b, c, d⟩ := V.2.2 j it' N' h1 h2
    refine ⟨a, b, c, fun h => ?_⟩
    obtain ⟨u, hu1, hu2⟩ := d h
    exact ⟨u, by rw [hc]; exact hu1, hu2⟩
theorem Vals.nil : Vals [] [] [] := ⟨rfl, rfl, fun j it N h => by cases h⟩
/-- what the law's record is -/
def RecOut (its : List Item) (v : Value) (own : List (Addr × Obj)) : Prop :=
  ∃ D Ns vs nn, v = .ref D ∧ (D, listOf (List.toArray vs) nn) ∈ own ∧ Vals its Ns vs ∧ (∀ v ∈ vs, Plainv v ∧ TextOk v)
end
-- I5
section
/-- the kind under which the law reads a group back -/
def bareKd : Kd → Kd
  | .s => .s
  | .r => .r
  | .t => .r
  | _ => .u
/-- what the law's plain record is -/
def PlainOut (its : List Item) (Ns : List Nat) (v : Value) (own : List (Addr × Obj)) : Prop :=
  ∃ D ps nn, v = .ref D ∧ (D, listOf (List.toArray ps) nn) ∈ own ∧ ps.length = its.length ∧ ∀ (j : Nat) (it : Item) (N : Nat) (p : Value), its[j]? = some it → Ns[j]? = some N → ps[j]? = some p → UVal (bareKd it.k) it.W N p
end
-- I6
section
/-- tuples of a kind's sign and a width -/
def TupsAt (own : List (Addr × Obj)) (rs : List Addr) (its : List Item) : Prop :=
  rs.length = its.length ∧ ∀ (j : Nat) (it : Item) (r : Addr), its[j]? = some it → rs[j]? = some r → ∃ t u nn, (r, ({ cls := .type "tuple", data := .seq [.str (RS.tx [it.k.sign]) t, .int (it.W : Int) u].toArray nn } : Obj)) ∈ own
theorem TupsAt.mono {own own' : List (Addr × Obj)} {rs : List Addr} {its : List Item} (x : TupsAt own rs its) (h : ∀ p ∈ own, p ∈ own') : TupsAt own' rs its :=
  ⟨x.1, fun j it r a b => let ⟨t, u, nn, m⟩ := x.2 j it r a b; ⟨t, u, nn, h _ m⟩⟩
theorem TupsAt.nil {own : List (Addr × Obj)} : TupsAt own [] [] := ⟨rfl, fun j it r h => by cases h⟩
theorem TupsAt.snoc {own own' : List (Addr × Obj)} {rs : List Addr} {its : List Item} {r : Addr} {it : Item} (x : TupsAt own rs its) (h : ∀ p ∈ own, p ∈ own') {t u : Tok} {nn : Nat} (hm : (r, ({ cls := .type "tuple", data := .seq [.str (RS.tx [it.k.sign]) t, .int (it.W : Int) u].toArray nn } : Obj)) ∈ own') : TupsAt own' (rs ++ [r]) (its ++ [it]) := by
  refine ⟨by rw [List.length_append, List.length_append, x.1]; rfl, fun j it' r' a b => ?_⟩
  rcases Nat.lt_or_ge j its.length with hlt | hge
  · rw [List.getElem?_append_left hlt] at a
    rw [List.getElem?_append_left (by rw [x.1]; exact hlt)] at b
    exact let ⟨t, u, nn, m⟩ := x.2 j it' r' a b; ⟨t, u, nn, h _ m⟩
  · rw [List.getElem?_append_right hge] at a
    rw [List.getElem?_append_right (by rw [x.1]; exact hge), x.1] at b
    have h0 : j - its.length = 0 := by
      rcases Nat.eq_zero_or_pos (j - its.length) with h | h
      · exact h
      · rw [List.getElem?_eq_none (by simp only [List.length_cons, List.length_nil]; omega)] at a; cases a
    rw [h0] at a b
    cases a; cases b
    exact ⟨t, u, nn, hm⟩
theorem TupsAt.groups {h₀ h : Heap} {L gl : Addr} {news own : List (Addr × Obj)} {rs : List Addr} {its : List Item} {n : Nat} (N : News h₀ L h news) (hg : (gl, listOf (rs.map Value.ref).toArray n) ∈ news) (x : TupsAt own rs its) (hs : ∀ p ∈ own, p ∈ news) : Groups h gl its :=
  ⟨rs, News.isList N hg, x.1, fun j it r a b => let ⟨t, u, nn, m⟩ := x.2 j it r a b; ⟨t, u, ⟨_, (N _ (hs _ m)).1, rfl, _, rfl⟩⟩⟩
/-- a group as the law reads it back -/
def fullIt (it : Item) : Item := ⟨match it.k with | .p => .u | .q => .u | .t => .r | k => k, match it.k with | .b => 1 | _ => it.W⟩
/-- a group's text -/
def wtext (p : Item × Bool) : PySem.Str := RS.tx ((if p.2 then [62] else []) ++ [p.1.k.sign] ++ digs p.1.W)
theorem News.cut2 {h₀ h : Heap} {L : Addr} {a b : Addr × Obj} {r : List (Addr × Obj)} (N : News h₀ L h (a :: b :: r)) : News h₀ L h (a :: r) := by
  intro p hp
  rcases List.mem_cons.mp hp with rfl | hp
  · exact N _ (.head _)
  · exact N _ (.tail _ (.tail _ hp))
/-- an end that the walk leaves alone -/
def Put (P : Prop) : Prop := P
def lawKd : Nat → Kd
  | 0 => .u | 1 => .s | 2 => .t | 3 => .r | 4 => .b | 5 => .p | 6 => .q | _ => .s
theorem sign_t {kk : Kd} (h : (RS.tx [kk.sign] == PySem.Str.ofString "t") = true) : kk = .t := by
  cases kk <;> first | rfl | (exact absurd h (by decide +kernel))
theorem sign_nt {kk : Kd} (h : (RS.tx [kk.sign] == PySem.Str.ofString "t") = false) : kk ≠ .t := by
  rintro rfl
  exact absurd h (by decide +kernel)
theorem sign_b {kk : Kd} (h : (RS.tx [kk.sign] == PySem.Str.ofString "b") = true) : kk = .b := by
  cases kk <;> first | rfl | (exact absurd h (by decide +kernel))
theorem sign_nb {kk : Kd} (h : (RS.tx [kk.sign] == PySem.Str.ofString "b") = false) : kk ≠ .b := by
  rintro rfl
  exact absurd h (by decide +kernel)
theorem News.to6 {h₀ h : Heap} {L : Addr} {a b c d e f : Addr × Obj} {r : List (Addr × Obj)} (N : News h₀ L h (a :: b :: c :: d :: e :: f :: r)) : News h₀ L h (b :: c :: d :: e :: f :: a :: r) := by
  intro p hp
  refine N p ?_
  simp only [List.mem_cons] at hp ⊢
  rcases hp with h | h | h | h | h | h | h <;> simp [h]
theorem StrsAre.snoc {vs : List Value} {ys : List PySem.Str} (h : StrsAre vs ys) {y : PySem.Str} {v : Value} (e : ∃ t, v = .str y t) : StrsAre (vs ++ [v]) (ys ++ [y]) := by
  obtain ⟨t, rfl⟩ := e
  induction h with
  | nil => exact .cons _ _ .nil
  | cons x t _ ih => exact .cons _ _ ih
theorem ownOff_cons {own : List (Addr × Obj)} {bs : List Addr} {T : Addr} {o : Obj} (h : PySem.W.OwnOff own bs) (hT : ∀ b ∈ bs, @Ne Nat T b) : PySem.W.OwnOff ((T, o) :: own) bs := by
  intro p hp b hb
  rcases List.mem_cons.mp hp with rfl | hp
  · exact hT b hb
  · exact h p hp b hb
theorem gt4 {a b c d T : Addr} (h1 : @LT.lt Nat _ a T) (h2 : @LT.lt Nat _ b T) (h3 : @LT.lt Nat _ c T) (h4 : @LT.lt Nat _ d T) : ∀ x ∈ [a, b, c, d], @Ne Nat T x := by
  intro x hx
  simp only [List.mem_cons, List.not_mem_nil, or_false] at hx
  rcases hx with rfl | rfl | rfl | rfl
  · exact Nat.ne_of_gt h1
  · exact Nat.ne_of_gt h2
  · exact Nat.ne_of_gt h3
  · exact Nat.ne_of_gt h4
theorem full_ok {kk : Kd} {W : Nat} {c : PySem.Str} {n : Int} (h1 : (kk.pad = true ∧ c = PySem.Str.ofString "u") ∨ (kk.pad = false ∧ kk = .t ∧ c = PySem.Str.ofString "r") ∨ (kk.pad = false ∧ kk ≠ .t ∧ c = RS.tx [kk.sign])) (h2 : (kk = .b ∧ n = 1) ∨ (kk ≠ .b ∧ n = (W : Int))) :
    c = RS.tx [(fullIt ⟨kk, W⟩).k.sign] ∧ n = ((fullIt ⟨kk, W⟩).W : Int) := by
  constructor
  · rcases h1 with ⟨h, rfl⟩ | ⟨_, rfl, rfl⟩ | ⟨h, h', rfl⟩
    · cases kk <;> first | (cases h; done) | exact rfl
    · exact rfl
    · cases kk <;> first | (cases h; done) | exact absurd rfl h' | exact rfl
  · rcases h2 with ⟨rfl, rfl⟩ | ⟨h, rfl⟩
    · exact rfl
    · cases kk <;> first | exact absurd rfl h | exact rfl
theorem pP_in (kk : Kd) : Txt.contains (PySem.Str.ofString "pP") (RS.tx [kk.sign]) = kk.pad := by cases kk <;> decide +kernel
theorem tx_app (a b : List Nat) : RS.tx a ++ RS.tx b = RS.tx (a ++ b) := by
  refine str_ext ?_
  show (a.toArray ++ b.toArray).toList = _
  simp [RS.tx]
theorem wtext_t (kk : Kd) (W : Nat) : PySem.Str.ofString ">" ++ RS.tx [kk.sign] ++ PySem.Str.ofString (toString (W : Int)) = wtext (⟨kk, W⟩, true) := by
  rw [← digs_text, show PySem.Str.ofString ">" = RS.tx [62] from rfl, tx_app, tx_app]; rfl
theorem wtext_f (kk : Kd) (W : Nat) : PySem.Str.ofString "" ++ RS.tx [kk.sign] ++ PySem.Str.ofString (toString (W : Int)) = wtext (⟨kk, W⟩, false) := by
  rw [← digs_text, show PySem.Str.ofString "" = RS.tx [] from rfl, tx_app, tx_app]; rfl
theorem News.to4 {h₀ h : Heap} {L : Addr} {a b c d : Addr × Obj} {r : List (Addr × Obj)} (N : News h₀ L h (a :: b :: c :: d :: r)) : News h₀ L h (b :: c :: d :: a :: r) := by
  intro p hp
  refine N p ?_
  simp only [List.mem_cons] at hp ⊢
  rcases hp with h | h | h | h | h <;> simp [h]
end
-- I7
section
theorem sum_W (its : List Item) : (its.map fun it => (it.W : Int)).sum = ((totW its : Nat) : Int) := by
  unfold totW
  induction its with
  | nil => rfl
  | cons a r ih => rw [List.map_cons, List.map_cons, List.sum_cons, List.sum_cons, ih]; omega
/-- groups filled up to whole octets -/
def padU (its : List Item) : List Item := if 0 < (-((totW its : Nat) : Int)).fmod 8 then its ++ [⟨.u, ((-((totW its : Nat) : Int)).fmod 8).toNat⟩] else its
theorem totW_app (a b : List Item) : totW (a ++ b) = totW a + totW b := by unfold totW; rw [List.map_append, List.sum_append]
theorem lfmod8 (n : Nat) : 0 ≤ (-((n : Nat) : Int)).fmod 8 ∧ (-((n : Nat) : Int)).fmod 8 < 8 ∧ (n + ((-((n : Nat) : Int)).fmod 8).toNat) % 8 = 0 := by
  have h1 := Int.fmod_nonneg_of_pos (-((n : Nat) : Int)) (show (0 : Int) < 8 by decide)
  have h2 := Int.fmod_lt_of_pos (-((n : Nat) : Int)) (show (0 : Int) < 8 by decide)
  refine ⟨h1, h2, ?_⟩
  rw [Int.fmod_eq_emod_of_nonneg _ (by decide)] at *
  omega
theorem padU_tot (its : List Item) : totW (padU its) % 8 = 0 ∧ totW its ≤ totW (padU its) ∧ totW (padU its) ≤ totW its + 7 := by
  obtain ⟨a, b, c⟩ := lfmod8 (totW its)
  unfold padU
  split
  · rw [totW_app]
    show (totW its + totW [(⟨.u, _⟩ : Item)]) % 8 = 0 ∧ _
    have e : totW [(⟨.u, ((-((totW its : Nat) : Int)).fmod 8).toNat⟩ : Item)] = ((-((totW its : Nat) : Int)).fmod 8).toNat := by unfold totW; simp
    rw [e]
    omega
  · omega
/-- the groups' texts with blanks between -/
def spaced : List (Item × Bool) → List Fm
  | [] => []
  | [p] => [⟨p.1, p.2, false⟩]
  | p :: r => ⟨p.1, p.2, true⟩ :: spaced r
theorem spaced_it : ∀ ws : List (Item × Bool), (spaced ws).map (·.it) = ws.map (·.1)
  | [] => rfl
  | [p] => rfl
  | p :: q :: r => by
    show p.1 :: (spaced (q :: r)).map (·.it) = _
    rw [spaced_it (q :: r)]; rfl
theorem join_sp (ws : List (Item × Bool)) : Txt.join (PySem.Str.ofString " ") (ws.map wtext) = RS.tx (fmtL (spaced ws)) := by
  have key : ∀ (p : Item × Bool) (r : List (Item × Bool)) (acc : Array Nat), (r.map wtext).foldl (fun (acc : Array Nat) (p : PySem.Str) => acc ++ (PySem.Str.ofString " ").cps ++ p.cps) (acc ++ (wtext p).cps) = acc ++ (fmtL (spaced (p :: r))).toArray := by
    intro p r
    induction r generalizing p with
    | nil =>
      intro acc
      show acc ++ (wtext p).cps = acc ++ _
      congr 1
      show (_ : List Nat).toArray = _
      unfold fmtL SR.txs spaced Fm.tk
      cases p.2 <;> simp [SR.Tk.tx]
    | cons q r ih =>
      intro acc
      rw [List.map_cons, List.foldl_cons, ih q]
      have e : (fmtL (spaced (p :: q :: r))).toArray = (wtext p).cps ++ (PySem.Str.ofString " ").cps ++ (fmtL (spaced (q :: r))).toArray := by
        have hl : fmtL (spaced (p :: q :: r)) = ((if p.2 then [62] else []) ++ [p.1.k.sign] ++ digs p.1.W) ++ [32] ++ fmtL (spaced (q :: r)) := by
          show (List.flatMap SR.Tk.tx ((⟨p.1, p.2, true⟩ : Fm).tk :: (spaced (q :: r)).map Fm.tk)) = _
          rw [List.flatMap_cons]
          show SR.Tk.tx _ ++ fmtL _ = _
          unfold Fm.tk SR.Tk.tx
          simp
        rw [hl]
        show (_ : List Nat).toArray = (((if p.2 then [62] else []) ++ [p.1.k.sign] ++ digs p.1.W) : List Nat).toArray ++ [32].toArray ++ _
        simp
      rw [e]
      simp only [Array.append_assoc]
  refine str_ext ?_
  cases ws with
  | nil => rfl
  | cons p r =>
    show (Array.toList (List.foldl _ _ _)) = _
    have h := key p r #[]
    rw [Array.empty_append, Array.empty_append] at h
    exact congrArg Array.toList h
theorem wtext_len {p : Item × Bool} (h : p.1.W ≤ 80) : (wtext p).length ≤ 12 := by
  have := digs_len p.1.W (by omega)
  unfold wtext
  rw [RS.tx_len]
  simp only [List.length_append, List.length_cons, List.length_nil]
  split <;> simp only [List.length_cons, List.length_nil] <;> omega
theorem wtexts_len : ∀ (ws : List (Item × Bool)), (∀ p ∈ ws, p.1.W ≤ 80) → ((ws.map wtext).map (·.length)).sum ≤ 12 * ws.length
  | [], _ => Nat.le_refl _
  | p :: r, h => by
    have h1 := wtext_len (h p (.head _))
    have h2 := wtexts_len r fun q hq => h q (.tail _ hq)
    rw [List.map_cons, List.map_cons, List.sum_cons, List.length_cons]
    omega
theorem padU_f {its : List Item} {f : Nat} (h : (-((totW its : Nat) : Int)).fmod 8 = (f : Int)) : padU its = if 0 < f then its ++ [⟨.u, f⟩] else its := by
  unfold padU
  rw [h, Int.toNat_natCast]
  by_cases h0 : 0 < f
  · rw [if_pos h0, if_pos (by omega)]
  · rw [if_neg h0, if_neg (by omega)]
theorem fmtL_map (b : Bool) : ∀ its : List Item, (its.map fun it => (if b = true then [62] else []) ++ [it.k.sign] ++ digs it.W).flatten = fmtL (its.map fun it => ⟨it, b, false⟩)
  | [] => rfl
  | a :: r => by
    show _ = SR.Tk.tx (Fm.tk ⟨a, b, false⟩) ++ fmtL (r.map fun it => ⟨it, b, false⟩)
    rw [List.map_cons, List.flatten_cons, fmtL_map b r]
    congr 1
    unfold Fm.tk SR.Tk.tx
    simp
theorem join_cat (its : List Item) (b : Bool) : Txt.join (PySem.Str.ofString "") (its.map fun it => wtext (it, b)) = RS.tx (fmtL (its.map fun it => ⟨it, b, false⟩)) := by
  have h := RS.glued_nil (its.map fun it => (if b = true then [62] else []) ++ [it.k.sign] ++ digs it.W)
  rw [List.map_map] at h
  exact h.trans (congrArg RS.tx (fmtL_map b its))
theorem full_items {ws : List (Item × Bool)} (hok : ∀ p ∈ ws, ItOk p.1 ∧ p.1.W ≤ 80) : ∀ it ∈ padU (ws.map fun p => fullIt p.1), (it.k = .u ∨ it.k = .s ∨ it.k = .b ∨ it.k = .r) ∧ 1 ≤ it.W ∧ it.W ≤ 80 ∧ (it.k = .b → it.W = 1) := by
  have h1 : ∀ it ∈ ws.map fun p => fullIt p.1, (it.k = .u ∨ it.k = .s ∨ it.k = .b ∨ it.k = .r) ∧ 1 ≤ it.W ∧ it.W ≤ 80 ∧ (it.k = .b → it.W = 1) := by
    intro it hit
    obtain ⟨p, hp, rfl⟩ := List.mem_map.mp hit
    obtain ⟨⟨a, _, _⟩, b⟩ := hok p hp
    unfold fullIt
    cases hk : p.1.k <;> simp [hk] <;> omega
  intro it hit
  obtain ⟨f0, f8, -⟩ := lfmod8 (totW (ws.map fun p => fullIt p.1))
  obtain ⟨f, hf⟩ := Int.eq_ofNat_of_zero_le f0
  rw [padU_f hf] at hit
  split at hit
  · rcases List.mem_append.mp hit with hit | hit
    · exact h1 it hit
    · rw [List.mem_singleton.mp hit]
      exact ⟨.inl rfl, by show 1 ≤ f; omega, by show f ≤ 80; omega, fun h => nomatch h⟩
  · exact h1 it hit
theorem wts_len (b : Bool) : ∀ (its : List Item), (∀ it ∈ its, it.W ≤ 80) → ((its.map fun it => wtext (it, b)).map (·.length)).sum + (its.map fun it => wtext (it, b)).length ≤ 13 * its.length
  | [], _ => Nat.le_refl _
  | p :: r, h => by
    have h1 := wtext_len (p := (p, b)) (h p (.head _))
    have h2 := wts_len b r fun q hq => h q (.tail _ hq)
    rw [List.map_cons, List.map_cons, List.sum_cons, List.length_cons, List.length_cons]
    omega
theorem fmtL_len : ∀ (fs : List Fm), (∀ f ∈ fs, f.it.W ≤ 100) → (SR.txs (fs.map Fm.tk)).length ≤ 13 * fs.length
  | [], _ => Nat.le_refl _
  | f :: r, h => by
    have h1 := digs_len f.it.W (Nat.lt_of_le_of_lt (h f (.head _)) (by decide))
    have h2 := fmtL_len r fun q hq => h q (.tail _ hq)
    show (SR.Tk.tx f.tk ++ SR.txs (r.map Fm.tk)).length ≤ _
    rw [List.length_append, List.length_cons]
    have h3 : (SR.Tk.tx f.tk).length ≤ 13 := by
      unfold SR.Tk.tx Fm.tk
      simp only [List.length_append, List.length_cons]
      cases f.pre <;> cases f.sp <;> simp <;> omega
    omega
theorem tx_gt (l : List Nat) : RS.tx l ++ PySem.Str.ofString ">" = RS.tx (l ++ [62]) := by
  rw [show PySem.Str.ofString ">" = RS.tx [62] from rfl, tx_app]
def Kd.bpP : Kd → Bool
  | .b | .p | .q => true
  | _ => false
theorem bpP_in (kk : Kd) : Txt.contains (PySem.Str.ofString "bpP") (RS.tx [kk.sign]) = kk.bpP := by cases kk <;> decide +kernel
/-- a group under the kind in which the law reads it back -/
def bareIt (it : Item) : Item := ⟨bareKd it.k, it.W⟩
theorem bare_ok {it : Item} {c : PySem.Str} (h : (it.k = .t ∧ c = PySem.Str.ofString "r") ∨ (it.k ≠ .t ∧ it.k.bpP = true ∧ c = PySem.Str.ofString "u") ∨ (it.k ≠ .t ∧ it.k.bpP = false ∧ c = RS.tx [it.k.sign])) :
    c ++ PySem.Str.ofString (toString (it.W : Int)) = wtext (bareIt it, false) := by
  have e : c = RS.tx [(bareIt it).k.sign] := by
    rcases h with ⟨h, rfl⟩ | ⟨h, h', rfl⟩ | ⟨h, h', rfl⟩
    · unfold bareIt; rw [h]; rfl
    · unfold bareIt
      cases hk : it.k <;> rw [hk] at h' <;> first | (cases h'; done) | exact rfl
    · unfold bareIt
      cases hk : it.k <;> rw [hk] at h' h <;> first | (cases h'; done) | exact absurd rfl h | exact rfl
  rw [e, ← digs_text, tx_app]; rfl
theorem bare_tot (its : List Item) : totW (its.map bareIt) = totW its := by
  unfold totW; rw [List.map_map]; rfl
theorem fmtL_snoc (a : List Fm) (f : Fm) : fmtL (a ++ [f]) = fmtL a ++ f.tk.tx := by
  unfold fmtL SR.txs
  rw [List.map_append, List.flatMap_append]; simp
theorem tx_rest (l : List Nat) (f : Nat) : RS.tx l ++ (PySem.Str.ofString "u" ++ PySem.Str.ofString (toString (f : Int))) = RS.tx (l ++ (⟨⟨.u, f⟩, false, false⟩ : Fm).tk.tx) := by
  rw [← digs_text, show PySem.Str.ofString "u" = RS.tx [117] from rfl, tx_app, tx_app]
  congr 2
  unfold Fm.tk SR.Tk.tx; simp [Kd.sign]
theorem tx_none (l : List Nat) : RS.tx l ++ PySem.Str.ofString "" = RS.tx l := by
  rw [show PySem.Str.ofString "" = RS.tx [] from rfl, tx_app, List.append_nil]
def Kd.usB : Kd → Bool
  | .u | .s => true
  | _ => false
theorem us_in (kk : Kd) : Txt.contains (PySem.Str.ofString "us") (RS.tx [kk.sign]) = kk.usB := by cases kk <;> decide +kernel
/-- the kind's name in the law's list of kinds -/
def kindT (kk : Kd) : PySem.Str := if kk.usB = true then PySem.Str.ofString "n" else RS.tx [kk.sign]
theorem kindT_1 {kk : Kd} (h : kk.usB = true) : PySem.Str.ofString "n" = kindT kk := (if_pos h).symm
theorem kindT_2 {kk : Kd} (h : kk.usB = false) : RS.tx [kk.sign] = kindT kk := (if_neg (by rw [h]; exact Bool.false_ne_true)).symm
def Kd.rB : Kd → Bool
  | .r => true
  | _ => false
theorem sign_r (kk : Kd) : (RS.tx [kk.sign] == PySem.Str.ofString "r") = kk.rB := by cases kk <;> decide +kernel
end
-- F23
section
local macro_rules | `(tactic| walk_at "assign Tuple") => `(tactic| k_dflt ((k_here; (with_reducible show wpAny _ _ (assign (Expr.Tuple _ _ _) _ (Value.ref _)) _ _ _); k_dflt (refine' unpackN_ ?F ?N ?T ?k1 ?k2 ?k3 ?_; (case F => k_asm); (case N => k_asm); (case T => first | exact isTup_of (by k_asm) (by k_mem) | exact IsTup.keeps (by assumption) (Fr.keep (by k_asm))); (case k1 => walk_at "mine hh"); (case k2 => exact rfl); (case k3 => exact rfl)); intro h' F' N'; (try k_sweep))))
local macro_rules | `(tactic| walk_at "subscriptTail Name Slice ref ref") => `(tactic| k_dflt ((k_here; (with_reducible show wpAny _ _ (subscriptTail _ (Expr.Slice none none (some _) _) (Value.ref _) (Value.ref _)) _ _ _); (with_reducible rename Fr _ _ _ _ => F'); (with_reducible rename News _ _ _ _ => N'); refine' krv_lit F' N' ?hl ?pk ?e ?_ ?hs ?ht ?hz; (case pk => first | exact .int .. | exact IsPart.int | constructor); (case e => exact rfl); (case hl => first | exact News.isList (by assumption) (by k_mem) | exact Heap.IsList.at (by assumption) (fun o e => Fr.keep (by assumption) _ _ e)); (case hs => with_unfolding_all rfl); (case ht => (intro _; with_unfolding_all rfl)); (case hz => walk_at "mine le"); intro D' h' F' N' l1; (try k_lt l1); (try k_sweep))))
theorem News.drop2 {h₀ h : Heap} {L : Addr} {a b : Addr × Obj} {r : List (Addr × Obj)} (N : News h₀ L h (a :: b :: r)) : News h₀ L h r := fun p hp => N p (.tail _ (.tail _ hp))
/-- the sign of the number c -/
def signC (c : Int) : Nat := (if c < 55295 then c + 1 else c + 2049).toNat
theorem ints_get {vs : List Value} {ns : List Int} (h : IntsAre vs ns) : ∀ {i : Nat} {v : Value}, vs[i]? = some v → ∃ n t, ns[i]? = some n ∧ v = .int n t := by
  induction h with
  | nil => intro i v h; cases h
  | cons n t _ ih =>
    intro i v h
    cases i with
    | zero => cases h; exact ⟨_, _, rfl, rfl⟩
    | succ i => exact ih h
theorem utf8_len (c : Nat) : (PySem.Str.utf8Of c).length ≤ 4 := by
  unfold PySem.Str.utf8Of
  repeat' split
  all_goals simp
theorem text_ok {ss : List Int} (h2 : ss.length ≤ 2) (hb : ∀ c ∈ ss, 0 ≤ c ∧ c < 1112063) : (RE.utf8L (ss.map signC)).length ≤ 8 ∧ (∀ c ∈ (RS.tx (ss.map signC)).cps.toList, PySem.Str.isSurrogate c = false) ∧ True ∧ (RS.tx (ss.map signC)).cps.size ≤ 2 ∧ ∀ c ∈ (RS.tx (ss.map signC)).cps.toList, 1 ≤ c ∧ c < 1114112 := by
  have key : ∀ c ∈ ss.map signC, 1 ≤ c ∧ c < 1114112 ∧ (c < 55296 ∨ 57344 ≤ c) := by
    intro c hc
    obtain ⟨d, hd, rfl⟩ := List.mem_map.mp hc
    have := hb d hd
    unfold signC
    split <;> omega
  refine ⟨?_, ?_, trivial, ?_, ?_⟩
  · have : ∀ l : List Nat, (RE.utf8L l).length ≤ 4 * l.length := by
      intro l
      induction l with
      | nil => exact Nat.le_refl _
      | cons a r ih =>
        have := utf8_len a
        unfold RE.utf8L at ih ⊢
        rw [List.flatMap_cons, List.length_append, List.length_cons]; omega
    have h3 := this (ss.map signC)
    rw [List.length_map] at h3; omega
  · intro c hc
    obtain ⟨h1, h2, h3⟩ := key c hc
    unfold PySem.Str.isSurrogate
    rw [Bool.and_eq_false_iff, decide_eq_false_iff_not, decide_eq_false_iff_not]
    omega
  · show (ss.map signC).toArray.size ≤ 2
    rw [List.size_toArray, List.length_map]; exact h2
  · intro c hc
    obtain ⟨h1, h2, h3⟩ := key c hc
    exact ⟨h1, h2⟩
variable {w : World} {A : Around} {s : Shared}
section
local macro_rules | `(tactic| walk_at "mine go") => `(tactic| repeat' ((fail_if_success (with_reducible show Ret _ _ _ _)); first | (k_unfold; (try dsimp only)) | ((fail_if_success ((with_reducible show wpAny _ _ (execs (Stmt.If (Expr.Compare (Expr.Name _ _) [CmpOp.Gt] _ _) _ _ _ :: _) _) _ _ _))); (fail_if_success (with_reducible show wpAny _ _ (exec (Stmt.Raise _ _ _) _) _ _ _)); (fail_if_success (with_reducible show wpAny _ _ (exec (Stmt.For _ _ _ _ _) _) _ _ _)); (fail_if_success (with_reducible show wpAny _ _ (exec (Stmt.While _ _ _ _) _) _ _ _)); (fail_if_success (with_reducible show wpAny _ _ (eval (Expr.ListComp _ _ _ _) _) _ _ _)); (fail_if_success (with_reducible show wpAny _ _ (exec (Stmt.Assign _ (Expr.ListComp _ _ _ _) _) _) _ _ _)); (first | walk1 | (dsimp only; walk1))) | fail "stop"))
theorem record_spec (B : Bas w s.heap) (H : Room A 3) (gl : Addr) (its : List Item) (y : Int) (t : Tok) (G : Groups s.heap gl its) (hits : ∀ it ∈ its, ItOk it) (hlen : its.length ≤ 10) :
    codeAny (model PySem.Challenge.pw_bk5003_01 w) A (.call (.ref 530) ⟨[.ref gl, .int y t], []⟩) (Ret s (RecOut its)) s := by
  obtain ⟨rs, Lg, hrl, hrs⟩ := G
  obtain ⟨X, p, loose, mean, mg, mb, T⟩ := B
  (k_dflt (refine' enter (binds := [(PySem.Str.ofString "groups", .ref gl), (PySem.Str.ofString "y", .int y t)]) ?k1 ?k2 ?k6 ?k7 ?k8 ?k9 ?kB ?_ ?c2 ?c3 ?c4 ?c5; (case k1 => k_asm); (case k2 => exact Top.nolimit (by assumption)); (case k6 => k_is); (case k7 => k_is); (case k8 => first | exact Nat.lt_of_le_of_lt (Nat.le_add_right _ _) (Room.hd (by assumption)) | (have hR9 := Room.hd (by assumption); omega)); (case k9 => first | exact hb9 _ _ _ _ (by k_is) | exact BindsTo.of_eq rfl | exact binds_K (by k_in) rfl (by k_is) rfl rfl rfl); (case c5 => decide); (case kB => exact locs rfl); (case c2 => exact rfl); (case c3 => exact rfl); (case c4 => exact rfl)); intro L' h' F' N'; (try dsimp only); (try k_fold))
  have hz2 : (rs.map Value.ref).toArray.size ≤ sizeLine := by rw [List.size_toArray, List.length_map, sizeLine_eq]; omega
  refine cut_stmt (h₀ := s.heap) (L := L') (fun m nw => ∃ V, nw = [(V, listOf (([] : List Value)).reverse.toArray 0)] ∧ MR m (PySem.Str.ofString "values") V ∧ MR m (PySem.Str.ofString "groups") gl ∧ m (PySem.Str.ofString "y") = some (.int y t)) ?_ ?_
  · walk_at "mine go"
    (rename Fr _ _ _ _ => kF); (rename News _ _ _ _ => kN)
    exact Turn.mk' kF kN ⟨_, rfl, by walk_at "mine look", by walk_at "mine look", by walk_at "mine look"⟩
  rintro h0 tk0 m0 nw0 kF kN ⟨V, rfl, m0, m9, m8⟩
  clear F' N'
  (try k_fold)
  walk_at "mine go"
  (rename Fr _ _ _ _ => kF); (rename News _ _ _ _ => kN)
  refine for_stmt ?_ (fun _ => rfl)
  walk_at "mine go"
  (rename Fr _ _ _ _ => kF); (rename News _ _ _ _ => kN)
  rename_i D2 h5 l1
  simp only [List.toList_toArray] at kN
  have hD2V : @Ne Nat D2 V := Nat.ne_of_gt l1
  refine for_it (L := L') rfl (CM.iter_list (Room.hhd H) (News.isList kN (.head _))) (fun I k m news => ∃ Ns vs yv ty nn, news = [(D2, listOf (rs.map Value.ref).reverse.toArray 0), (V, listOf (List.reverse vs).toArray nn)] ∧ Vals (its.drop (its.length - k)) Ns vs ∧ (∀ v ∈ vs, Plainv v ∧ TextOk v) ∧ m (PySem.Str.ofString "y") = some (.int yv ty) ∧ MR m (PySem.Str.ofString "values") V) kF kN
    (fun b hb => by rw [List.mem_singleton.mp hb]; exact .inr ⟨_, fun I i m news hJ => by obtain ⟨_, _, _, _, _, rfl, _⟩ := hJ; exact .head _⟩) (fun I _ => ⟨[], [], y, t, 0, rfl, by rw [Nat.sub_zero, List.drop_length]; exact Vals.nil, (fun v h => nomatch h), by walk_at "mine look", by walk_at "mine look"⟩) ?_ ?_
  · clear kF kN
    rintro I k v m news h tk oI hj hvj ⟨Ns, vs, yv, ty, nn, rfl, hV, hok, m1, m2⟩ kF kN hI
    (try k_fold)
    rw [List.length_reverse, List.length_map, hrl] at hj
    obtain ⟨j, hjd⟩ : ∃ j, j = its.length - 1 - k := ⟨_, rfl⟩
    have hjl : j < its.length := by omega
    obtain ⟨it, hit⟩ : ∃ it, its[j]? = some it := ⟨_, List.getElem?_eq_getElem hjl⟩
    obtain ⟨r, hr⟩ : ∃ r, rs[j]? = some r := ⟨_, List.getElem?_eq_getElem (by rw [hrl]; exact hjl)⟩
    obtain rfl : v = .ref r := by
      rw [List.getElem?_reverse (by rw [List.length_map, hrl]; exact hj), List.length_map, hrl, ← hjd, List.getElem?_map, hr] at hvj
      exact (Option.some.inj hvj).symm
    obtain ⟨t1, u1, hT⟩ := hrs j it r hit hr
    have hIt := hits it (List.mem_of_getElem? hit)
    have hdrop : its.drop (its.length - (k + 1)) = it :: its.drop (its.length - k) := by
      rw [show its.length - (k + 1) = j by omega, show its.length - k = j + 1 by omega, List.drop_eq_getElem_cons hjl]
      rw [List.getElem?_eq_getElem hjl] at hit
      rw [Option.some.inj hit]
    have hVl : vs.length ≤ 10 := by
      have h1 := hV.2.1
      have h2 : cnt (its.drop (its.length - k)) (its.drop (its.length - k)).length ≤ (its.drop (its.length - k)).length := by
        unfold cnt
        exact Nat.le_trans (List.length_filter_le _ _) (by rw [List.length_take]; exact Nat.min_le_left _ _)
      have h3 := List.length_drop (i := its.length - k) (l := its)
      omega
    have hz3 : (List.reverse vs).toArray.size ≤ sizeLine := by rw [List.size_toArray, List.length_reverse, sizeLine_eq]; omega
    have hID : @Ne Nat D2 I := hI _ (.head _)
    have hIV : @Ne Nat V I := hI _ (.tail _ (.head _))
    have hIV' : @Ne Nat I V := fun e => hIV e.symm
    clear hvj hr
    obtain ⟨kk, W⟩ := it
    obtain ⟨hw1, hw2, hwt⟩ := hIt
    dsimp only at hw1 hw2 hwt
    have c1 : Txt.contains (PySem.Str.ofString "usr") (PySem.Str.ofString "u") = true := by decide +kernel
    have c2 : Txt.contains (PySem.Str.ofString "usr") (PySem.Str.ofString "s") = true := by decide +kernel
    have c3 : Txt.contains (PySem.Str.ofString "usr") (PySem.Str.ofString "r") = true := by decide +kernel
    have c4 : Txt.contains (PySem.Str.ofString "usr") (PySem.Str.ofString "p") = false := by decide +kernel
    have c5 : Txt.contains (PySem.Str.ofString "usr") (PySem.Str.ofString "P") = false := by decide +kernel
    have y1 : ((2 : Int) ^ ((W : Int)).toNat) ≠ 0 := by rw [Int.toNat_natCast]; exact Int.ne_of_gt (Int.pow_pos (by decide))
    have y2 : Builtin.divisionGoesByPylong yv ((2 : Int) ^ ((W : Int)).toNat) = false := pylong2 yv (by omega)
    obtain ⟨N, hN, hNlt⟩ := fmod_pow yv W
    have hN' : yv.fmod ((2 : Int) ^ ((W : Int)).toNat) = (N : Int) := by rw [Int.toNat_natCast]; exact hN
    have hnx : ∀ o : Obj, ∀ p ∈ [(D2, listOf (rs.map Value.ref).reverse.toArray 0), (V, o)], p.1 ≠ I := fun o p hp => by
      rcases List.mem_cons.mp hp with rfl | hp
      · exact hID
      · rw [List.mem_singleton.mp hp]; exact hIV
    cases kk
    case u =>
      change IsTup s.heap r [.str (PySem.Str.ofString "u") t1, .int (W : Int) u1].toArray at hT
      walk_at "mine go"
      (rename Fr _ _ _ _ => kF'); (rename News _ _ _ _ => kN')
      simp only [List.push_toArray, ← List.reverse_cons] at kN'
      refine Turn.mk' kF' (News.sub kN' (b := (I, oI) :: [(D2, listOf (rs.map Value.ref).reverse.toArray 0), (V, _)]) (fun p hp => .tail _ hp)) ⟨_, rfl, hnx _, N :: Ns, _, _, _, _, rfl, by rw [hdrop]; exact Vals.cons hV hNlt rfl ⟨_, rfl⟩, ?_, by walk_at "mine look", by walk_at "mine look"⟩
      intro v hv
      rcases List.mem_cons.mp hv with rfl | hv
      · exact ⟨trivial, trivial⟩
      · exact hok v hv
    case s =>
      change IsTup s.heap r [.str (PySem.Str.ofString "s") t1, .int (W : Int) u1].toArray at hT
      have z1 : ((W : Int) - 1).toNat = W - 1 := by omega
      have z2 : ((2 ^ (W - 1) : Nat) : Int) = (2 : Int) ^ (W - 1) := by rw [Int.natCast_pow]; rfl
      walk_at "mine go"
      · rename (2 : Int) ^ _ ≤ _ => hge
        rw [z1, ← z2] at hge
        replace hge := Int.ofNat_le.mp hge
        (rename Fr _ _ _ _ => kF'); (rename News _ _ _ _ => kN')
        simp only [List.push_toArray, ← List.reverse_cons] at kN'
        refine Turn.mk' kF' (News.sub kN' (b := (I, oI) :: [(D2, listOf (rs.map Value.ref).reverse.toArray 0), (V, _)]) (fun p hp => .tail _ hp)) ⟨_, rfl, hnx _, N :: Ns, _, _, _, _, rfl, by rw [hdrop]; exact Vals.cons hV hNlt rfl ⟨_, val_int (by unfold toS; rw [if_neg (Nat.not_lt.mpr hge), Int.toNat_natCast])⟩, ?_, by walk_at "mine look", by walk_at "mine look"⟩
        intro v hv
        rcases List.mem_cons.mp hv with rfl | hv
        · exact ⟨trivial, trivial⟩
        · exact hok v hv
      · rename ¬ (2 : Int) ^ _ ≤ _ => hge
        rw [z1, ← z2] at hge
        replace hge := Nat.lt_of_not_le fun h => hge (Int.ofNat_le.mpr h)
        (rename Fr _ _ _ _ => kF'); (rename News _ _ _ _ => kN')
        simp only [List.push_toArray, ← List.reverse_cons] at kN'
        refine Turn.mk' kF' (News.sub kN' (b := (I, oI) :: [(D2, listOf (rs.map Value.ref).reverse.toArray 0), (V, _)]) (fun p hp => .tail _ hp)) ⟨_, rfl, hnx _, N :: Ns, _, _, _, _, rfl, by rw [hdrop]; exact Vals.cons hV hNlt rfl ⟨_, val_int (by unfold toS; rw [if_pos hge])⟩, ?_, by walk_at "mine look", by walk_at "mine look"⟩
        intro v hv
        rcases List.mem_cons.mp hv with rfl | hv
        · exact ⟨trivial, trivial⟩
        · exact hok v hv
    case b =>
      change IsTup s.heap r [.str (PySem.Str.ofString "b") t1, .int (W : Int) u1].toArray at hT
      obtain ⟨N2, hN2, hN2l⟩ := fmod_pow yv 1
      have hN2' : yv.fmod 2 = (N2 : Int) := hN2
      have hN2W : N2 < 2 ^ W := Nat.lt_of_lt_of_le hN2l (Nat.pow_le_pow_right (by decide) hw1)
      walk_at "mine go"
      (rename Fr _ _ _ _ => kF'); (rename News _ _ _ _ => kN')
      simp only [List.push_toArray, ← List.reverse_cons] at kN'
      refine Turn.mk' kF' (News.sub kN' (b := (I, oI) :: [(D2, listOf (rs.map Value.ref).reverse.toArray 0), (V, _)]) (fun p hp => .tail _ hp)) ⟨_, rfl, hnx _, N2 :: Ns, _, _, _, _, rfl, by rw [hdrop]; exact Vals.cons hV hN2W rfl ⟨val_bool (by rcases (show N2 = 0 ∨ N2 = 1 by omega) with rfl | rfl <;> rfl), by show N2 ≤ 1; omega⟩, ?_, by walk_at "mine look", by walk_at "mine look"⟩
      intro v hv
      rcases List.mem_cons.mp hv with rfl | hv
      · exact ⟨trivial, trivial⟩
      · exact hok v hv
    case r =>
      change IsTup s.heap r [.str (PySem.Str.ofString "r") t1, .int (W : Int) u1].toArray at hT
      obtain ⟨kb, hkb⟩ : ∃ kb, kb = (W + 7) / 8 := ⟨_, rfl⟩
      obtain ⟨P, hP⟩ : ∃ P, P = 8 * kb - W := ⟨_, rfl⟩
      have q1 : ((W : Int) + 7).fdiv 8 = (kb : Int) := by rw [Int.fdiv_eq_ediv_of_nonneg _ (by decide)]; omega
      have q2 : ((8 : Int) * (kb : Int) - (W : Int)).toNat = P := by omega
      have q3 : (N : Int) * (2 : Int) ^ ((8 : Int) * (kb : Int) - (W : Int)).toNat = ((N * 2 ^ P : Nat) : Int) := by rw [q2, Int.natCast_mul, Int.natCast_pow]; rfl
      have q4 : IntMulOk (N : Int) ((2 : Int) ^ ((8 : Int) * (kb : Int) - (W : Int)).toNat) := by
        rw [q2]
        refine IntMulOk.of_right ?_
        have : ∀ P : Nat, P < 8 → Builtin.Int.intBits ((2 : Int) ^ P) ≤ 64 := by decide
        exact this P (by omega)
      have q5 : N * 2 ^ P < 256 ^ kb := by
        rw [BT.pow_256, show 8 * kb = W + P by omega, Nat.pow_add]; exact (Nat.mul_lt_mul_right (Nat.two_pow_pos P)).mpr hNlt
      walk_at "mine go"
      (rename Fr _ _ _ _ => kF'); (rename News _ _ _ _ => kN')
      simp only [List.push_toArray, ← List.reverse_cons] at kN'
      refine Turn.mk' kF' (News.sub kN' (b := (I, oI) :: [(D2, listOf (rs.map Value.ref).reverse.toArray 0), (V, _)]) (fun p hp => .tail _ hp)) ⟨_, rfl, hnx _, N :: Ns, _, _, _, _, rfl, by rw [hdrop]; exact Vals.cons hV hNlt rfl ⟨_, val_bytes (by rw [← hkb, ← hP])⟩, ?_, by walk_at "mine look", by walk_at "mine look"⟩
      intro v hv
      rcases List.mem_cons.mp hv with rfl | hv
      · exact ⟨trivial, trivial⟩
      · exact hok v hv
    case p =>
      change IsTup s.heap r [.str (PySem.Str.ofString "p") t1, .int (W : Int) u1].toArray at hT
      walk_at "mine go"
      (rename Fr _ _ _ _ => kF'); (rename News _ _ _ _ => kN')
      exact Turn.mk' kF' kN' ⟨_, rfl, hnx _, _, _, _, _, _, rfl, by rw [hdrop]; exact Vals.consP hV (.inl rfl), hok, by walk_at "mine look", by walk_at "mine look"⟩
    case q =>
      change IsTup s.heap r [.str (PySem.Str.ofString "P") t1, .int (W : Int) u1].toArray at hT
      walk_at "mine go"
      (rename Fr _ _ _ _ => kF'); (rename News _ _ _ _ => kN')
      exact Turn.mk' kF' kN' ⟨_, rfl, hnx _, _, _, _, _, _, rfl, by rw [hdrop]; exact Vals.consP hV (.inr rfl), hok, by walk_at "mine look", by walk_at "mine look"⟩
    case t =>
      change IsTup s.heap r [.str (PySem.Str.ofString "t") t1, .int (W : Int) u1].toArray at hT
      obtain ⟨hw8, hw64⟩ := hwt rfl
      obtain ⟨P, hP, hPl⟩ : ∃ P : Nat, yv.fmod (1 + 1112063 + 1112063 * 1112063) = (P : Int) ∧ P < 1 + 1112063 + 1112063 * 1112063 := by
        have h1 := Int.fmod_nonneg_of_pos yv (show (0 : Int) < 1 + 1112063 + 1112063 * 1112063 by decide)
        have h2 := Int.fmod_lt_of_pos yv (show (0 : Int) < 1 + 1112063 + 1112063 * 1112063 by decide)
        obtain ⟨P, hP⟩ := Int.eq_ofNat_of_zero_le h1
        exact ⟨P, hP, by omega⟩
      walk_at "mine go"
      (rename Fr _ _ _ _ => kF'); (rename News _ _ _ _ => kN')
      replace kN' := News.sub kN' (b := (I, oI) :: [(D2, listOf (rs.map Value.ref).reverse.toArray 0), (V, listOf (List.reverse vs).toArray nn)]) (fun p hp => .tail _ hp)
      refine cut_stmt (h₀ := s.heap) (L := L') (fun m nw => ∃ S ws ss ns, nw = (S, listOf (List.toArray ws) ns) :: (I, oI) :: [(D2, listOf (rs.map Value.ref).reverse.toArray 0), (V, listOf (List.reverse vs).toArray nn)] ∧ @LT.lt Nat _ V S ∧ IntsAre ws ss ∧ ss.length ≤ 2 ∧ (∀ c ∈ ss, 0 ≤ c ∧ c < 1112063) ∧ (∃ yq tq, m (PySem.Str.ofString "y") = some (.int yq tq)) ∧ MR m (PySem.Str.ofString "values") V ∧ MR m (PySem.Str.ofString "signs") S) ?_ ?_
      · walk_at "mine go"
        · (rename Fr _ _ _ _ => kF9); (rename News _ _ _ _ => kN9)
          refine Turn.mk' kF9 kN9 ⟨_, _, [((P : Int) - 1112064).fdiv 1112063, ((P : Int) - 1112064).fmod 1112063], _, rfl, by omega, .cons _ _ (.cons _ _ .nil), Nat.le_refl _, ?_, ⟨_, _, by walk_at "mine look"⟩, by walk_at "mine look", by walk_at "mine look"⟩
          intro c hc
          rw [Int.fdiv_eq_ediv_of_nonneg _ (by decide), Int.fmod_eq_emod_of_nonneg _ (by decide)] at hc
          rcases List.mem_cons.mp hc with rfl | hc
          · omega
          · rw [List.mem_singleton.mp hc]; omega
        · (rename Fr _ _ _ _ => kF9); (rename News _ _ _ _ => kN9)
          refine Turn.mk' kF9 kN9 ⟨_, _, [(P : Int) - 1], _, rfl, by omega, .cons _ _ .nil, Nat.le_of_ble_eq_true rfl, ?_, ⟨_, _, by walk_at "mine look"⟩, by walk_at "mine look", by walk_at "mine look"⟩
          intro c hc
          rw [List.mem_singleton.mp hc]; omega
        · (rename Fr _ _ _ _ => kF9); (rename News _ _ _ _ => kN9)
          exact Turn.mk' kF9 kN9 ⟨_, _, [], _, rfl, by omega, .nil, Nat.le_of_ble_eq_true rfl, (fun c hc => nomatch hc), ⟨_, _, by walk_at "mine look"⟩, by walk_at "mine look", by walk_at "mine look"⟩
      clear kF' kN' m1 m2
      rintro h6 tk6 m6 nw6 kF' kN' ⟨S, ws, ss, ns, rfl, hVS, hws, hsl, hsb, ⟨yq, tq, m1⟩, m2, m3⟩
      (try k_fold)
      have hwl : ws.length ≤ 2 := by rw [hws.length]; exact hsl
      have hSV : @Ne Nat S V := Nat.ne_of_gt hVS
      walk_at "mine go"
      (rename Fr _ _ _ _ => kF'); (rename News _ _ _ _ => kN')
      refine CM.expr (F₀ := kF') (by with_unfolding_all rfl) (by decide) (by rfl) (by decide) ?_
      walk_at "mine go"
      refine ⟨_, _, _, _, (fun i ys nw => nw = _ ∧ StrsAre ys ((ss.take i).map fun c => RS.tx [signC c])), CM.iter_list (Room.hhd H) (News.isList kN' (.head _)), ?_, kF', kN', ?_, ?_, ⟨rfl, .nil⟩, ?_, ?_⟩
      · rw [sizeLine_eq]; omega
      · intro b hb
        rw [List.mem_singleton.mp hb]
        exact ⟨Heap.lt_size (kN' _ (.head _)).1, .inr ⟨_, fun i ys nw hJ => by rw [hJ.1]; exact .head _⟩⟩
      · rintro i ys nw ⟨_, hy⟩
        have := hy.length
        rw [List.length_map, List.length_take] at this
        omega
      · rintro i v ys nw I1 oI1 C oC D m₂ h2 tk2 hi hv ⟨rfl, hys⟩ F2 N2 hC off ne
        obtain ⟨c, u, hc, rfl⟩ := ints_get hws hv
        obtain ⟨hc1, hc2⟩ := hsb c (List.mem_of_getElem? hc)
        refine CM.asg_name F2 N2 hC ne.1 (CM.offC ne off) (by rfl) (by rfl) ?_
        intro h3 oC3 tk3 F3 N3 hC3
        refine wpAny_tests_nil ?_
        simp only [if_true]
        walk_at "mine go"
        · refine CM.End.mk' F3 N3 hC3 (fun _ h => h) off ⟨rfl, ?_⟩
          rw [List.take_add_one, hc, List.map_append]
          have e : RS.tx [signC c] = PySem.Str.mk #[(c + 1).toNat] := by unfold signC; rw [if_pos (by assumption)]
          simp only [Option.toList_some, List.map_cons, List.map_nil, e]
          exact kct_snoc hys
        · refine CM.End.mk' F3 N3 hC3 (fun _ h => h) off ⟨rfl, ?_⟩
          rw [List.take_add_one, hc, List.map_append]
          have e : RS.tx [signC c] = PySem.Str.mk #[(c + 2049).toNat] := by unfold signC; rw [if_neg (by assumption)]
          simp only [Option.toList_some, List.map_cons, List.map_nil, e]
          exact kct_snoc hys
      · rintro D ys nw h2 tk2 ⟨rfl, hys⟩ F2 N2 o1
        rw [hws.length, List.take_length] at hys
        have hg : Txt.join (PySem.Str.ofString "") (ss.map fun c => RS.tx [signC c]) = RS.tx (ss.map signC) := by
          have := RS.glued_nil (ss.map fun c => [signC c])
          rw [List.map_map] at this
          refine this.trans (congrArg RS.tx ?_)
          have e1 : ∀ l : List Int, (l.map fun c => [signC c]).flatten = l.map signC := by
            intro l
            induction l with
            | nil => rfl
            | cons u r ih => rw [List.map_cons, List.flatten_cons, ih]; rfl
          exact e1 ss
        have hw : ((ss.map fun c => RS.tx [signC c]).map (·.length)).sum + (ss.map fun c => RS.tx [signC c]).length ≤ 1048576 := by
          have e1 : ∀ l : List Int, ((l.map fun c => RS.tx [signC c]).map (·.length)).sum = l.length := by
            intro l
            induction l with
            | nil => rfl
            | cons u r ih =>
              rw [List.map_cons, List.map_cons, List.sum_cons, ih, RS.tx_len, List.length_cons, List.length_cons, List.length_nil]
              omega
          rw [e1, List.length_map]; omega
        obtain ⟨os, oi, od, ov, _⟩ := o1
        have ov' : @Ne Nat D V := fun e => ov e.symm
        clear kF' kN'
        walk_at "mine go"
        (rename Fr _ _ _ _ => kF'); (rename News _ _ _ _ => kN')
        simp only [List.push_toArray, ← List.reverse_cons] at kN'
        obtain ⟨tN, t1', _, t3', t4'⟩ := text_ok hsl hsb
        have hNt : BT.fromB (RE.utf8L (ss.map signC)) * 2 ^ (W - 8 * (RE.utf8L (ss.map signC)).length) < 2 ^ W := by
          have h1 := BT.fromB_lt (RE.utf8L (ss.map signC))
          rw [BT.pow_256] at h1
          have h2 : W = 8 * (RE.utf8L (ss.map signC)).length + (W - 8 * (RE.utf8L (ss.map signC)).length) := by omega
          conv => rhs; rw [h2, Nat.pow_add]
          exact (Nat.mul_lt_mul_right (Nat.two_pow_pos _)).mpr h1
        have hval : ∀ tk : Tok, Val .t W (BT.fromB (RE.utf8L (ss.map signC)) * 2 ^ (W - 8 * (RE.utf8L (ss.map signC)).length)) (.str (RS.tx (ss.map signC)) tk) := fun tk => ⟨RS.tx (ss.map signC), tk, rfl, t1', hw8, (by show 8 * (RE.utf8L (ss.map signC)).length ≤ W; omega), rfl⟩
        refine Turn.mk' kF' (News.drop2 kN') ⟨_, rfl, hnx _, BT.fromB (RE.utf8L (ss.map signC)) * 2 ^ (W - 8 * (RE.utf8L (ss.map signC)).length) :: Ns, _, _, _, _, rfl, by rw [hdrop]; exact Vals.cons hV hNt rfl (hval _), ?_, by walk_at "mine look", by walk_at "mine look"⟩
        · intro v hv
          rcases List.mem_cons.mp hv with rfl | hv
          · exact ⟨trivial, t3', t4'⟩
          · exact hok v hv
  · clear kF kN
    rintro I m news h tk ⟨Ns, vs, yv, ty, nn, rfl, hV, hok, m1, m2⟩ kF kN
    (try k_fold)
    rw [List.length_reverse, List.length_map, hrl, Nat.sub_self, List.drop_zero] at hV
    have hVl : vs.length ≤ 10 := by
      have h1 := hV.2.1
      have h2 : cnt its its.length ≤ its.length := by
        unfold cnt
        exact Nat.le_trans (List.length_filter_le _ _) (by rw [List.length_take]; exact Nat.min_le_left _ _)
      omega
    have hz3 : (List.reverse vs).toArray.size ≤ sizeLine := by rw [List.size_toArray, List.length_reverse, sizeLine_eq]; omega
    walk_at "mine go"
    (rename Fr _ _ _ _ => kF'); (rename News _ _ _ _ => kN')
    simp only [List.reverse_reverse] at kN'
    exact ⟨_, _, _, _, rfl, rfl, Fr.keep kF', (fun p hp => ⟨(kN' p hp).1, (kN' p hp).2.2⟩), _, Ns, vs, _, rfl, .head _, hV, hok⟩
end
end
-- F22
section
local macro_rules | `(tactic| walk_at "assign Tuple") => `(tactic| k_dflt ((k_here; (with_reducible show wpAny _ _ (assign (Expr.Tuple _ _ _) _ (Value.ref _)) _ _ _); k_dflt (refine' unpackN_ ?F ?N ?T ?k1 ?k2 ?k3 ?_; (case F => k_asm); (case N => k_asm); (case T => first | exact isTup_of (by k_asm) (by k_mem) | exact IsTup.keeps (by assumption) (Fr.keep (by k_asm))); (case k1 => walk_at "mine hh"); (case k2 => exact rfl); (case k3 => exact rfl)); intro h' F' N'; (try k_sweep))))
local macro_rules | `(tactic| walk_at "subscriptTail") => `(tactic| k_dflt ((k_here; (with_reducible show wpAny _ _ (subscriptTail _ _ (Value.ref _) (Value.int _ _)) _ _ _); refine' RT.item_list ?hl ?h0 ?hf ?hx ?_; (case hl => exact Heap.IsList.at (by assumption) (fun o e => Fr.keep (by k_asm) _ _ e)); (case h0 => omega); (case hf => omega); (case hx => assumption))))
local macro_rules | `(tactic| walk_at "subscriptTail Name Name ref int") => `(tactic| k_dflt ((k_here; (with_reducible show wpAny _ _ (subscriptTail _ _ (Value.ref _) (Value.int _ _)) _ _ _); refine' RT.item_list ?hl ?h0 ?hf ?hx ?_; (case hl => exact Heap.IsList.at (by assumption) (fun o e => Fr.keep (by k_asm) _ _ e)); (case h0 => omega); (case hf => omega); (case hx => assumption))))
theorem News.drop1 {h₀ h : Heap} {L : Addr} {a : Addr × Obj} {r : List (Addr × Obj)} (N : News h₀ L h (a :: r)) : News h₀ L h r := fun p hp => N p (.tail _ hp)
theorem u8i (n : Nat) (h : n < 256) : ((n.toUInt8).toNat : Int) = (n : Int) := by
  have : n.toUInt8.toNat = n := by show (UInt8.ofNat n).toNat = n; rw [UInt8.toNat_ofNat']; omega
  rw [this]
theorem utf8_1 {c : Nat} (h : c < 128) : (PySem.Str.utf8Of c).map (fun c => (c.toNat : Int)) = [(c : Int)] := by
  unfold PySem.Str.utf8Of
  rw [if_pos h]
  simp only [List.map_cons, List.map_nil]
  rw [u8i _ (by omega)]
theorem utf8_2 {c : Nat} (h1 : 128 ≤ c) (h : c < 2048) : (PySem.Str.utf8Of c).map (fun c => (c.toNat : Int)) = [192 + (c : Int).fdiv 64, 128 + (c : Int).fmod 64] := by
  unfold PySem.Str.utf8Of
  rw [if_neg (by omega), if_pos h]
  simp only [List.map_cons, List.map_nil]
  rw [u8i _ (by omega), u8i _ (by omega), Int.fdiv_eq_ediv_of_nonneg _ (by decide), Int.fmod_eq_emod_of_nonneg _ (by decide)]
  simp only [List.cons.injEq, and_true]
  constructor <;> omega
theorem utf8_3 {c : Nat} (h1 : 2048 ≤ c) (h : c < 65536) : (PySem.Str.utf8Of c).map (fun c => (c.toNat : Int)) = [224 + (c : Int).fdiv 4096, 128 + ((c : Int).fdiv 64).fmod 64, 128 + (c : Int).fmod 64] := by
  unfold PySem.Str.utf8Of
  rw [if_neg (by omega), if_neg (by omega), if_pos h]
  simp only [List.map_cons, List.map_nil]
  rw [u8i _ (by omega), u8i _ (by omega), u8i _ (by omega)]
  simp only [Int.fdiv_eq_ediv_of_nonneg _ (show (0 : Int) ≤ 64 by decide), Int.fdiv_eq_ediv_of_nonneg _ (show (0 : Int) ≤ 4096 by decide), Int.fmod_eq_emod_of_nonneg _ (show (0 : Int) ≤ 64 by decide), List.cons.injEq, and_true]
  refine ⟨?_, ?_, ?_⟩ <;> omega
theorem utf8_4 {c : Nat} (h1 : 65536 ≤ c) (h : c < 1114112) : (PySem.Str.utf8Of c).map (fun c => (c.toNat : Int)) = [240 + (c : Int).fdiv 262144, 128 + ((c : Int).fdiv 4096).fmod 64, 128 + ((c : Int).fdiv 64).fmod 64, 128 + (c : Int).fmod 64] := by
  unfold PySem.Str.utf8Of
  rw [if_neg (by omega), if_neg (by omega), if_neg (by omega)]
  simp only [List.map_cons, List.map_nil]
  rw [u8i _ (by omega), u8i _ (by omega), u8i _ (by omega), u8i _ (by omega)]
  simp only [Int.fdiv_eq_ediv_of_nonneg _ (show (0 : Int) ≤ 64 by decide), Int.fdiv_eq_ediv_of_nonneg _ (show (0 : Int) ≤ 4096 by decide), Int.fdiv_eq_ediv_of_nonneg _ (show (0 : Int) ≤ 262144 by decide), Int.fmod_eq_emod_of_nonneg _ (show (0 : Int) ≤ 64 by decide), List.cons.injEq, and_true]
  refine ⟨?_, ?_, ?_, ?_⟩ <;> omega
section
local macro_rules | `(tactic| walk_at "mine go") => `(tactic| repeat' ((fail_if_success (with_reducible show Ret _ _ _ _)); first | (k_unfold; (try dsimp only)) | ((fail_if_success ((with_reducible show wpAny _ _ (call (Value.type "bytes") _) _ _ _))); (fail_if_success (with_reducible show wpAny _ _ (exec (Stmt.Raise _ _ _) _) _ _ _)); (fail_if_success (with_reducible show wpAny _ _ (exec (Stmt.For _ _ _ _ _) _) _ _ _)); (fail_if_success (with_reducible show wpAny _ _ (exec (Stmt.While _ _ _ _) _) _ _ _)); (fail_if_success (with_reducible show wpAny _ _ (eval (Expr.ListComp _ _ _ _) _) _ _ _)); (fail_if_success (with_reducible show wpAny _ _ (exec (Stmt.Assign _ (Expr.ListComp _ _ _ _) _) _) _ _ _)); (first | walk1 | (dsimp only; walk1))) | fail "stop"))
theorem fromB_z0 (U : List UInt8) : ∀ z, BT.fromB (U ++ List.replicate z 0) = BT.fromB U * 256 ^ z
  | 0 => by simp
  | z + 1 => by
    rw [List.replicate_succ', ← List.append_assoc, BT.fromB_snoc, fromB_z0 U z, Nat.pow_succ, Nat.mul_assoc]; rfl
theorem utf8_pad {U : List UInt8} {W N z : Nat} (h8 : W % 8 = 0) (hl : 8 * U.length ≤ W) (hN : N = BT.fromB U * 2 ^ (W - 8 * U.length)) (hz : z = W / 8 - U.length) :
    ((U.map (fun c => (c.toNat : Int)) ++ (List.replicate z [(0 : Int)]).flatten).map fun n => n.toNat.toUInt8).toArray = (BT.toB ((W + 7) / 8) (N * 2 ^ (8 * ((W + 7) / 8) - W))).toArray := by
  congr 1
  have h1 : (W + 7) / 8 = U.length + z := by omega
  have h2 : 8 * ((W + 7) / 8) - W = 0 := by omega
  have h3 : W - 8 * U.length = 8 * z := by omega
  have h4 : N * 2 ^ 0 = BT.fromB (U ++ List.replicate z 0) := by rw [fromB_z0, hN, h3, BT.pow_256, Nat.pow_zero, Nat.mul_one]
  have h5 : U.length + z = (U ++ List.replicate z (0 : UInt8)).length := by rw [List.length_append, List.length_replicate]
  rw [h2, h4, h1, h5, BT.to_fromB, List.flatten_replicate_singleton, List.map_append, List.map_replicate, List.map_map]
  congr 1
  refine (List.map_congr_left (g := id) fun c _ => ?_).trans (List.map_id _)
  show ((c.toNat : Int)).toNat.toUInt8 = c
  rw [Int.toNat_natCast]; exact UInt8.ofNat_toNat
variable {w : World} {A : Around} {s : Shared}
theorem plain_spec (B : Bas w s.heap) (H : Room A 3) (gl vl : Addr) (its : List Item) (Ns : List Nat) (vs : List Value) (G : Groups s.heap gl its) (V : Vals its Ns vs) (hok : ∀ v ∈ vs, Plainv v ∧ TextOk v) (hvl : s.heap.IsList vl vs.toArray) (hits : ∀ it ∈ its, ItOk it) (hlen : its.length ≤ 10) :
    codeAny (model PySem.Challenge.pw_bk5003_01 w) A (.call (.ref 549) ⟨[.ref gl, .ref vl], []⟩) (Ret s (PlainOut its Ns)) s := by
  obtain ⟨rs, Lg, hrl, hrs⟩ := G
  have hgl : ∃ o, s.heap.get? gl = some o := let ⟨o, ho, _⟩ := Lg; ⟨o, ho⟩
  obtain ⟨X, p, loose, mean, mg, mb, T⟩ := B
  (k_dflt (refine' enter (binds := [(PySem.Str.ofString "groups", .ref gl), (PySem.Str.ofString "values", .ref vl)]) ?k1 ?k2 ?k6 ?k7 ?k8 ?k9 ?kB ?_ ?c2 ?c3 ?c4 ?c5; (case k1 => k_asm); (case k2 => exact Top.nolimit (by assumption)); (case k6 => k_is); (case k7 => k_is); (case k8 => first | exact Nat.lt_of_le_of_lt (Nat.le_add_right _ _) (Room.hd (by assumption)) | (have hR9 := Room.hd (by assumption); omega)); (case k9 => first | exact hb9 _ _ _ _ (by k_is) | exact BindsTo.of_eq rfl | exact binds_K (by k_in) rfl (by k_is) rfl rfl rfl); (case c5 => decide); (case kB => exact locs rfl); (case c2 => exact rfl); (case c3 => exact rfl); (case c4 => exact rfl)); intro L' h' F' N'; (try dsimp only); (try k_fold))
  refine cut_stmt (h₀ := s.heap) (L := L') (fun m nw => ∃ O, nw = [(O, listOf (List.toArray ([] : List Value)) 0)] ∧ MR m (PySem.Str.ofString "out") O ∧ MR m (PySem.Str.ofString "groups") gl ∧ MR m (PySem.Str.ofString "values") vl) ?_ ?_
  · walk_at "mine go"
    (rename Fr _ _ _ _ => kF); (rename News _ _ _ _ => kN)
    exact Turn.mk' kF kN ⟨_, rfl, by walk_at "mine look", by walk_at "mine look", by walk_at "mine look"⟩
  rintro h0 tk0 m0 nw0 kF kN ⟨O, rfl, m0, m9, m8⟩
  clear F' N'
  (try k_fold)
  walk_at "mine go"
  (rename Fr _ _ _ _ => kF); (rename News _ _ _ _ => kN)
  refine for_stmt ?_ (fun _ => rfl)
  walk_at "mine go"
  (rename Fr _ _ _ _ => kF); (rename News _ _ _ _ => kN)
  refine for_it (L := L') rfl (CM.iter_list (Room.hhd H) (Lg.at fun o e => kF.keep _ _ e)) (fun I k m news => ∃ ps nn, news = [(O, listOf (List.toArray ps) nn)] ∧ ps.length = k ∧ (∀ (j : Nat) (it : Item) (N : Nat) (p : Value), its[j]? = some it → Ns[j]? = some N → ps[j]? = some p → UVal (bareKd it.k) it.W N p) ∧ MR m (PySem.Str.ofString "out") O ∧ MR m (PySem.Str.ofString "values") vl ∧ ∃ t, m (PySem.Str.ofString "i") = some (.int (cnt its k : Nat) t)) kF kN
    (fun b hb => by rw [List.mem_singleton.mp hb]; exact .inl hgl) (fun I _ => ⟨[], 0, rfl, rfl, (fun j it N p _ _ h => by cases h), by walk_at "mine look", by walk_at "mine look", _, by walk_at "mine look"⟩) ?_ ?_
  · clear kF kN
    rintro I j v m news h tk oI hj hvj ⟨ps, nn, rfl, hpl, hps, m1, m2, ti, m3⟩ kF kN hI
    (try k_fold)
    rw [List.length_map, hrl] at hj
    obtain ⟨it, hit⟩ : ∃ it, its[j]? = some it := ⟨_, List.getElem?_eq_getElem hj⟩
    obtain ⟨N, hN⟩ : ∃ N, Ns[j]? = some N := ⟨_, List.getElem?_eq_getElem (by rw [← V.1]; exact hj)⟩
    obtain ⟨r, hr⟩ : ∃ r, rs[j]? = some r := ⟨_, List.getElem?_eq_getElem (by rw [hrl]; exact hj)⟩
    obtain rfl : v = .ref r := by
      rw [List.getElem?_map, hr] at hvj
      exact (Option.some.inj hvj).symm
    obtain ⟨t1, u1, hT⟩ := hrs j it r hit hr
    obtain ⟨hw1, hw2, hwt⟩ := hits it (List.mem_of_getElem? hit)
    obtain ⟨n1, n2, n3, n4⟩ := V.2.2 j it N hit hN
    have hcnt := cnt_take hit
    have hcj : cnt its j ≤ j := by
      unfold cnt
      exact Nat.le_trans (List.length_filter_le _ _) (by rw [List.length_take]; omega)
    have hz3 : (List.toArray ps).size ≤ sizeLine := by rw [List.size_toArray, sizeLine_eq]; omega
    have hOI : @Ne Nat O I := hI _ (.head _)
    have hIO : @Ne Nat I O := fun e => hOI e.symm
    have fin : ∀ p : Value, UVal (bareKd it.k) it.W N p → ∀ (j' : Nat) (it' : Item) (N' : Nat) (p' : Value), its[j']? = some it' → Ns[j']? = some N' → (ps ++ [p])[j']? = some p' → UVal (bareKd it'.k) it'.W N' p' := by
      intro p hp j' it' N' p' h1 h2 h3
      rcases Nat.lt_or_ge j' ps.length with hlt | hge
      · rw [List.getElem?_append_left hlt] at h3; exact hps j' it' N' p' h1 h2 h3
      · rw [List.getElem?_append_right hge] at h3
        have h0 : j' - ps.length = 0 := by
          rcases Nat.eq_zero_or_pos (j' - ps.length) with h | h
          · exact h
          · rw [List.getElem?_eq_none (by simp only [List.length_cons, List.length_nil]; omega)] at h3; cases h3
        have hij : j' = j := by omega
        rw [h0] at h3; cases h3
        subst hij
        rw [hit] at h1; cases h1
        rw [hN] at h2; cases h2
        exact hp
    obtain ⟨kk, W⟩ := it
    dsimp only at hw1 hw2 hwt fin n1 n2 n3 n4 hcnt
    have d1 : Txt.contains (PySem.Str.ofString "pP") (PySem.Str.ofString "u") = false := by decide +kernel
    have d2 : Txt.contains (PySem.Str.ofString "pP") (PySem.Str.ofString "s") = false := by decide +kernel
    have d3 : Txt.contains (PySem.Str.ofString "pP") (PySem.Str.ofString "r") = false := by decide +kernel
    have d4 : Txt.contains (PySem.Str.ofString "pP") (PySem.Str.ofString "p") = true := by decide +kernel
    have d5 : Txt.contains (PySem.Str.ofString "pP") (PySem.Str.ofString "P") = true := by decide +kernel
    have d6 : Txt.contains (PySem.Str.ofString "pP") (PySem.Str.ofString "t") = false := by decide +kernel
    have d7 : Txt.contains (PySem.Str.ofString "pP") (PySem.Str.ofString "b") = false := by decide +kernel
    have hnx : ∀ o : Obj, ∀ p ∈ [(O, o)], p.1 ≠ I := fun o p hp => by rw [List.mem_singleton.mp hp]; exact hOI
    cases kk
    case u =>
      have hcu : ((cnt its (j + 1) : Nat) : Int) = (cnt its j : Nat) + 1 := by rw [hcnt]; rfl
      change IsTup s.heap r [.str (PySem.Str.ofString "u") t1, .int (W : Int) u1].toArray at hT
      obtain ⟨v, hv1, hv2⟩ := n4 rfl
      have ix : vs[((cnt its j : Nat) : Int).toNat]? = some v := by rw [Int.toNat_natCast]; exact hv1
      obtain ⟨tv, rfl⟩ := hv2
      walk_at "mine go"
      (rename Fr _ _ _ _ => kF'); (rename News _ _ _ _ => kN')
      simp only [List.push_toArray] at kN'
      refine Turn.mk' kF' kN' ⟨_, rfl, hnx _, _, _, rfl, by rw [List.length_append, hpl]; rfl, fin _ (⟨_, rfl⟩), by walk_at "mine look", by walk_at "mine look", _, by rw [hcu]; walk_at "mine look"⟩
    case s =>
      have hcu : ((cnt its (j + 1) : Nat) : Int) = (cnt its j : Nat) + 1 := by rw [hcnt]; rfl
      change IsTup s.heap r [.str (PySem.Str.ofString "s") t1, .int (W : Int) u1].toArray at hT
      obtain ⟨v, hv1, hv2⟩ := n4 rfl
      have ix : vs[((cnt its j : Nat) : Int).toNat]? = some v := by rw [Int.toNat_natCast]; exact hv1
      obtain ⟨tv, rfl⟩ := hv2
      walk_at "mine go"
      (rename Fr _ _ _ _ => kF'); (rename News _ _ _ _ => kN')
      simp only [List.push_toArray] at kN'
      refine Turn.mk' kF' kN' ⟨_, rfl, hnx _, _, _, rfl, by rw [List.length_append, hpl]; rfl, fin _ (⟨_, rfl⟩), by walk_at "mine look", by walk_at "mine look", _, by rw [hcu]; walk_at "mine look"⟩
    case r =>
      have hcu : ((cnt its (j + 1) : Nat) : Int) = (cnt its j : Nat) + 1 := by rw [hcnt]; rfl
      change IsTup s.heap r [.str (PySem.Str.ofString "r") t1, .int (W : Int) u1].toArray at hT
      obtain ⟨v, hv1, hv2⟩ := n4 rfl
      have ix : vs[((cnt its j : Nat) : Int).toNat]? = some v := by rw [Int.toNat_natCast]; exact hv1
      obtain ⟨tv, rfl⟩ := hv2
      walk_at "mine go"
      (rename Fr _ _ _ _ => kF'); (rename News _ _ _ _ => kN')
      simp only [List.push_toArray] at kN'
      refine Turn.mk' kF' kN' ⟨_, rfl, hnx _, _, _, rfl, by rw [List.length_append, hpl]; rfl, fin _ (⟨_, rfl⟩), by walk_at "mine look", by walk_at "mine look", _, by rw [hcu]; walk_at "mine look"⟩
    case b =>
      have hcu : ((cnt its (j + 1) : Nat) : Int) = (cnt its j : Nat) + 1 := by rw [hcnt]; rfl
      change IsTup s.heap r [.str (PySem.Str.ofString "b") t1, .int (W : Int) u1].toArray at hT
      obtain ⟨v, hv1, hv2⟩ := n4 rfl
      have ix : vs[((cnt its j : Nat) : Int).toNat]? = some v := by rw [Int.toNat_natCast]; exact hv1
      obtain ⟨rfl, hb1⟩ := hv2
      walk_at "mine go"
      · have h1 : N = 1 := by rename (N == 1) = true => h; simpa using h
        (rename Fr _ _ _ _ => kF'); (rename News _ _ _ _ => kN')
        simp only [List.push_toArray] at kN'
        refine Turn.mk' kF' kN' ⟨_, rfl, hnx _, _, _, rfl, by rw [List.length_append, hpl]; rfl, fin _ ((by rw [h1]; exact ⟨_, rfl⟩ : UVal .u W N _)), by walk_at "mine look", by walk_at "mine look", _, by rw [hcu]; walk_at "mine look"⟩
      · have h1 : N = 0 := by
          rename (N == 1) = false => h
          have : N ≠ 1 := by simpa using h
          omega
        (rename Fr _ _ _ _ => kF'); (rename News _ _ _ _ => kN')
        simp only [List.push_toArray] at kN'
        refine Turn.mk' kF' kN' ⟨_, rfl, hnx _, _, _, rfl, by rw [List.length_append, hpl]; rfl, fin _ ((by rw [h1]; exact ⟨_, rfl⟩ : UVal .u W N _)), by walk_at "mine look", by walk_at "mine look", _, by rw [hcu]; walk_at "mine look"⟩
    case p =>
      have hcu : ((cnt its (j + 1) : Nat) : Int) = (cnt its j : Nat) := by rw [hcnt]; rfl
      change IsTup s.heap r [.str (PySem.Str.ofString "p") t1, .int (W : Int) u1].toArray at hT
      walk_at "mine go"
      (rename Fr _ _ _ _ => kF'); (rename News _ _ _ _ => kN')
      simp only [List.push_toArray] at kN'
      refine Turn.mk' kF' kN' ⟨_, rfl, hnx _, _, _, rfl, by rw [List.length_append, hpl]; rfl, fin _ ((by rw [n2 rfl]; exact ⟨_, rfl⟩ : UVal .u W N _)), by walk_at "mine look", by walk_at "mine look", _, by rw [hcu]; walk_at "mine look"⟩
    case q =>
      have hcu : ((cnt its (j + 1) : Nat) : Int) = (cnt its j : Nat) := by rw [hcnt]; rfl
      change IsTup s.heap r [.str (PySem.Str.ofString "P") t1, .int (W : Int) u1].toArray at hT
      walk_at "mine go"
      (rename Fr _ _ _ _ => kF'); (rename News _ _ _ _ => kN')
      simp only [List.push_toArray] at kN'
      refine Turn.mk' kF' kN' ⟨_, rfl, hnx _, _, _, rfl, by rw [List.length_append, hpl]; rfl, fin _ ((by rw [n3 rfl]; exact ⟨_, val_int (by rw [Int.toNat_natCast]; have h9 := Nat.two_pow_pos W; have h8 : ((2 ^ W : Nat) : Int) = (2 : Int) ^ W := (by rw [Int.natCast_pow]; rfl); omega)⟩ : UVal .u W N _)), by walk_at "mine look", by walk_at "mine look", _, by rw [hcu]; walk_at "mine look"⟩
    case t =>
      have hcu : ((cnt its (j + 1) : Nat) : Int) = (cnt its j : Nat) + 1 := by rw [hcnt]; rfl
      change IsTup s.heap r [.str (PySem.Str.ofString "t") t1, .int (W : Int) u1].toArray at hT
      obtain ⟨v, hv1, hv2⟩ := n4 rfl
      have ix : vs[((cnt its j : Nat) : Int).toNat]? = some v := by rw [Int.toNat_natCast]; exact hv1
      have hvt := hok v (List.mem_of_getElem? hv1)
      obtain ⟨y, tv, rfl, z1, z2, z3, z4⟩ := hv2
      walk_at "mine go"
      (rename Fr _ _ _ _ => kF'); (rename News _ _ _ _ => kN')
      rename_i Q h9 l1 h10
      have hQI : @Ne Nat Q I := Nat.ne_of_gt l1.1
      have hQO : @Ne Nat Q O := Nat.ne_of_gt l1.2
      have hOQ : @Ne Nat O Q := fun e => hQO e.symm
      refine for_stmt ?_ (fun _ => rfl)
      walk_at "mine go"
      refine for_it (L := L') rfl (CM.iter_str (Room.hhd H)) (fun I2 i m news => ∃ ws nq, news = [(Q, listOf (List.toArray ws) nq), (I, oI), (O, listOf (List.toArray ps) nn)] ∧ IntsAre ws ((RE.utf8L (y.cps.toList.take i)).map fun c => (c.toNat : Int)) ∧ ws.length ≤ 4 * i ∧ MR m (PySem.Str.ofString "octets") Q ∧ m (PySem.Str.ofString "width") = some (.int (W : Int) u1) ∧ MR m (PySem.Str.ofString "out") O ∧ MR m (PySem.Str.ofString "values") vl ∧ ∃ t, m (PySem.Str.ofString "i") = some (.int (cnt its (j + 1) : Nat) t)) kF' kN'
        (fun b hb => nomatch hb) (fun I2 _ => ⟨[], 0, rfl, .nil, Nat.zero_le _, by walk_at "mine look", by walk_at "mine look", by walk_at "mine look", by walk_at "mine look", _, by rw [hcu]; walk_at "mine look"⟩) ?_ ?_
      · clear kF' kN' m1 m2 m3
        rintro I2 i v m news h tk oI2 hi ⟨c, uc, hc, rfl⟩ ⟨ws, nq, rfl, hws, hwl, m1, m2, m3, m4, ti, m5⟩ kF kN hI2
        (try k_fold)
        have hc8 : (ws.length : Nat) ≤ 8 := by have := hvt.2.1; omega
        have hzw : (List.toArray ws).size ≤ sizeLine := by rw [List.size_toArray, sizeLine_eq]; omega
        have hQ2 : @Ne Nat Q I2 := hI2 _ (.head _)
        have hQ2' : @Ne Nat I2 Q := fun e => hQ2 e.symm
        have hc14 : 1 ≤ c ∧ c < 1114112 := hvt.2.2 c (List.mem_of_getElem? (by rw [Array.getElem?_toList]; exact hc))
        have hnext : (RE.utf8L (y.cps.toList.take (i + 1))).map (fun c => (c.toNat : Int)) = ((RE.utf8L (y.cps.toList.take i)).map fun c => (c.toNat : Int)) ++ (PySem.Str.utf8Of c).map fun c => (c.toNat : Int) := by
          rw [List.take_add_one, show y.cps.toList[i]? = some c by rw [Array.getElem?_toList]; exact hc]
          unfold RE.utf8L
          rw [List.flatMap_append, List.map_append]
          simp
        have hnx2 : ∀ o : Obj, ∀ p ∈ [(Q, o), (I, oI), (O, listOf (List.toArray ps) nn)], p.1 ≠ I2 := fun o p hp => by
          rcases List.mem_cons.mp hp with rfl | hp
          · exact hQ2
          · exact hI2 p (.tail _ hp)
        walk_at "mine go"
        · (rename Fr _ _ _ _ => kF'); (rename News _ _ _ _ => kN')
          simp only [List.push_toArray] at kN'
          refine Turn.mk' kF' kN' ⟨_, rfl, hnx2 _, _, _, rfl, ?_, ?_, by walk_at "mine look", by walk_at "mine look", by walk_at "mine look", by walk_at "mine look", _, by walk_at "mine look"⟩
          · rw [hnext, utf8_1 (by omega)]
            exact hws.append (.cons _ _ .nil)
          · show (ws ++ _).length ≤ _
            rw [List.length_append]
            simp only [List.length_cons, List.length_nil]; omega
        · (rename Fr _ _ _ _ => kF'); (rename News _ _ _ _ => kN')
          simp only [List.push_toArray] at kN'
          refine Turn.mk' kF' (News.drop1 kN') ⟨_, rfl, hnx2 _, _, _, rfl, ?_, ?_, by walk_at "mine look", by walk_at "mine look", by walk_at "mine look", by walk_at "mine look", _, by walk_at "mine look"⟩
          · rw [hnext, utf8_2 (by omega) (by omega)]
            exact hws.append (.cons _ _ (.cons _ _ .nil))
          · show (ws ++ _).length ≤ _
            rw [List.length_append]
            simp only [List.length_cons, List.length_nil]; omega
        · (rename Fr _ _ _ _ => kF'); (rename News _ _ _ _ => kN')
          simp only [List.push_toArray] at kN'
          refine Turn.mk' kF' (News.drop1 kN') ⟨_, rfl, hnx2 _, _, _, rfl, ?_, ?_, by walk_at "mine look", by walk_at "mine look", by walk_at "mine look", by walk_at "mine look", _, by walk_at "mine look"⟩
          · rw [hnext, utf8_3 (by omega) (by omega)]
            exact hws.append (.cons _ _ (.cons _ _ (.cons _ _ .nil)))
          · show (ws ++ _).length ≤ _
            rw [List.length_append]
            simp only [List.length_cons, List.length_nil]; omega
        · (rename Fr _ _ _ _ => kF'); (rename News _ _ _ _ => kN')
          simp only [List.push_toArray] at kN'
          refine Turn.mk' kF' (News.drop1 kN') ⟨_, rfl, hnx2 _, _, _, rfl, ?_, ?_, by walk_at "mine look", by walk_at "mine look", by walk_at "mine look", by walk_at "mine look", _, by walk_at "mine look"⟩
          · rw [hnext, utf8_4 (by omega) hc14.2]
            exact hws.append (.cons _ _ (.cons _ _ (.cons _ _ (.cons _ _ .nil))))
          · show (ws ++ _).length ≤ _
            rw [List.length_append]
            simp only [List.length_cons, List.length_nil]; omega
      · clear kF' kN' m1 m2 m3
        rintro I2 m news h tk ⟨ws, nq, rfl, hws, hwl, m1, m2, m3, m4, ti, m5⟩ kF kN
        (try k_fold)
        rw [show y.cps.toList.take y.cps.size = y.cps.toList by rw [← Array.length_toList, List.take_length]] at hws
        have hwsl : ws.length = (RE.utf8L y.cps.toList).length := by rw [hws.length, List.length_map]
        have f1 : ((W : Int)).fdiv 8 = ((W / 8 : Nat) : Int) := by rw [Int.fdiv_eq_ediv_of_nonneg _ (by decide)]; rfl
        have f2 : (((W / 8 : Nat) : Int) - (((((RE.utf8L y.cps.toList).map fun c => (c.toNat : Int)).length : Nat)) : Int)).toNat = W / 8 - (RE.utf8L y.cps.toList).length := by rw [List.length_map]; omega
        have f3 : ∀ n ∈ ((RE.utf8L y.cps.toList).map fun c => (c.toNat : Int)) ++ (List.replicate (((W / 8 : Nat) : Int) - (((((RE.utf8L y.cps.toList).map fun c => (c.toNat : Int)).length : Nat)) : Int)).toNat [(0 : Int)]).flatten, 0 ≤ n ∧ n < 256 := by
          intro n hn
          rcases List.mem_append.mp hn with hn | hn
          · obtain ⟨b, _, rfl⟩ := List.mem_map.mp hn
            have := UInt8.toNat_lt b
            omega
          · rw [List.flatten_replicate_singleton] at hn
            rw [(List.mem_replicate.mp hn).2]; omega
        have hQI' : @Ne Nat I Q := fun e => hQI e.symm
        walk_at "mine go"
        (rename IntsAre _ _ => hIs)
        have hIl := hIs.length
        simp only [List.length_append, List.length_map, List.flatten_replicate_singleton, List.length_replicate] at hIl
        have hzz : (RE.utf8L y.cps.toList).length ≤ 8 := by have := hvt.2.1; omega
        (k_dflt (refine' bytes_K ?F ?N ?hl ?hi ?hr ?hz ?hh ?_; (case F => k_asm); (case N => k_asm); (case hl => exact News.isList (by k_asm) (by k_mem)); (case hi => exact hIs); (case hr => exact f3); (case hz => (rw [sizeLine_eq]; omega)); (case hh => walk_at "mine hh")); intro h' t' k' F' N' hb'; k_sweep; (try dsimp only); (try k_fold))
        walk_at "mine go"
        (rename Fr _ _ _ _ => kF'); (rename News _ _ _ _ => kN')
        simp only [List.push_toArray] at kN'
        refine Turn.mk' kF' (News.drop1 (News.drop1 (News.drop1 (News.drop1 kN')))) ⟨_, rfl, hnx _, _, _, rfl, by rw [List.length_append, hpl]; rfl, fin _ (⟨_, val_bytes (utf8_pad z2 z3 z4 f2)⟩ : UVal .r W N _), by walk_at "mine look", by walk_at "mine look", _, by walk_at "mine look"⟩
  · clear kF kN
    rintro I m news h tk ⟨ps, nn, rfl, hpl, hps, m1, m2, ti, m3⟩ kF kN
    (try k_fold)
    rw [List.length_map, hrl] at hpl
    walk_at "mine go"
    (rename Fr _ _ _ _ => kF'); (rename News _ _ _ _ => kN')
    exact ⟨_, _, _, _, rfl, rfl, Fr.keep kF', (fun p hp => ⟨(kN' p hp).1, (kN' p hp).2.2⟩), _, ps, _, rfl, .head _, hpl, hps⟩
end
end
-- F24
section
theorem off1_mem {D : Addr} {l : List (Addr × Obj)} (h : PyProof.Rows.LCg.Off1 D l) : ∀ p ∈ l, @Ne Nat p.1 D := by
  induction l with
  | nil => intro p hp; cases hp
  | cons a r ih =>
    intro p hp
    rcases List.mem_cons.mp hp with rfl | hp
    · exact h.1
    · exact ih h.2 p hp
def PairRow (n : Nat) (eqK ltK : Nat → Nat → Bool) (own : List (Addr × Obj)) (i : Nat) (r : Addr) : Prop :=
  ∃ (ts : List Addr) (nn : Nat), (r, listOf (ts.map Value.ref).toArray nn) ∈ own ∧ ts.length = n ∧ ∀ j t, ts[j]? = some t → ∃ k, (t, ({ cls := .type "tuple", data := .seq #[.bool (ltK i j), .bool (eqK i j)] k } : Obj)) ∈ own
theorem PairRow.mono {n : Nat} {eqK ltK : Nat → Nat → Bool} {own own' : List (Addr × Obj)} {i : Nat} {r : Addr} (x : PairRow n eqK ltK own i r) (h : ∀ p ∈ own, p ∈ own') : PairRow n eqK ltK own' i r :=
  let ⟨ts, nn, a, b, c⟩ := x; ⟨ts, nn, h _ a, b, fun j t e => let ⟨k, z⟩ := c j t e; ⟨k, h _ z⟩⟩
/-- the law's table of pairs -/
def PairsOut (n : Nat) (eqK ltK : Nat → Nat → Bool) (v : Value) (own : List (Addr × Obj)) : Prop :=
  ∃ (D : Addr) (rs : List Addr) (nn : Nat), v = .ref D ∧ (D, listOf (rs.map Value.ref).toArray nn) ∈ own ∧ rs.length = n ∧ ∀ i r, rs[i]? = some r → PairRow n eqK ltK own i r
section
local macro_rules | `(tactic| walk_at "mine go") => `(tactic| repeat' ((fail_if_success (with_reducible show Ret _ _ _ _)); first | (k_unfold; (try dsimp only)) | ((fail_if_success ((with_reducible show wpAny _ _ (compareOp _ _ _) _ _ _))); (fail_if_success (with_reducible show wpAny _ _ (exec (Stmt.Raise _ _ _) _) _ _ _)); (fail_if_success (with_reducible show wpAny _ _ (exec (Stmt.For _ _ _ _ _) _) _ _ _)); (fail_if_success (with_reducible show wpAny _ _ (exec (Stmt.While _ _ _ _) _) _ _ _)); (fail_if_success (with_reducible show wpAny _ _ (eval (Expr.ListComp _ _ _ _) _) _ _ _)); (fail_if_success (with_reducible show wpAny _ _ (exec (Stmt.Assign _ (Expr.ListComp _ _ _ _) _) _) _ _ _)); (first | walk1 | (dsimp only; walk1))) | fail "stop"))
variable {w : World} {A : Around} {s : Shared}
theorem pairs_spec (B : Bas w s.heap) (H : Room A 3) (rl : Addr) (vs : List Value) (eqK ltK : Nat → Nat → Bool) (hl : s.heap.IsList rl vs.toArray) (hn : vs.length ≤ 10)
    (HK : ∀ (A' : Around) (s' : Shared) (i j : Nat) (u v : Value), Ext s.heap s'.heap → A'.units + 2 < cLine → vs[i]? = some u → vs[j]? = some v → PySem.SeqAt.RcAt A' s' u v (eqK i j) ∧ TL.LtAt A' s' u v (ltK i j)) :
    codeAny (model PySem.Challenge.pw_bk5003_01 w) A (.call (.ref 554) ⟨[.ref rl], []⟩) (Ret s (PairsOut vs.length eqK ltK)) s := by
  obtain ⟨X, p, loose, mean, mg, mb, T⟩ := B
  refine' enterC (binds := [(PySem.Str.ofString "rows", .ref rl)]) X (Top.nolimit T) ?k6 ?k7 ?k8 ?k9 ?kB ?kD ?_ ?c2 ?c3 ?c4
  case k6 => k_is
  case k7 => k_is
  case k8 => exact Nat.lt_of_le_of_lt (Nat.le_add_right _ _) (Room.hd H)
  case k9 => exact BindsTo.of_eq rfl
  case kB =>
    intro n x hx
    rw [List.mem_singleton.mp hx]
    exact .inr ⟨rfl, rfl⟩
  case kD => decide
  case c2 => exact rfl
  case c3 => exact rfl
  case c4 => exact rfl
  intro L' h' tk cells F' N' Y
  have Y : CellsAre _ [(PySem.Str.ofString "rows", L' + 1)] cells := Y
  obtain ⟨oR, rfl, hR⟩ := Y.one
  have hR : oR.data = .cell (some (.ref rl)) := hR
  walk_at "mine go"
  obtain ⟨mm, kF⟩ : ∃ mm, Fr s.heap L' h' mm := ⟨_, F'⟩
  clear F' Y
  refine CM.exprC (F₀ := kF) (cl := [(PySem.Str.ofString "rows", L' + 1)]) (by with_unfolding_all rfl) rfl rfl (by decide) ?_
  refine nameX_C N' rfl (.head _) hR ?_
  intro c hc
  have hRlt : L' + 1 < h'.objs.size := Heap.lt_size (N' _ (.head _)).1
  have hRc : @Ne Nat (L' + 1) c := Nat.ne_of_lt (Nat.lt_trans hRlt hc)
  refine ⟨_, _, _, _, (fun i ys nw => ∃ (rs : List Addr) (oc : Obj) (own : List (Addr × Obj)), ys = rs.map Value.ref ∧ rs.length = i ∧ nw = (c, oc) :: (L' + 1, oR) :: own ∧ (∃ vv, oc.data = .cell vv) ∧ (∀ p ∈ own, ∀ vv, p.2.data ≠ .cell vv) ∧ ∀ i' r, rs[i']? = some r → PairRow vs.length eqK ltK own i' r),
    CM.iter_list (Room.hhd H) (hl.at fun o e => kF.keep _ _ e), ?_, kF, N', ?_, ?_, ⟨[], _, [], rfl, rfl, rfl, ⟨_, rfl⟩, (fun p hp => nomatch hp), (fun i r h => by cases h)⟩, ?_, ?_⟩
  · rw [sizeLine_eq]; omega
  · intro b hb
    rw [List.mem_singleton.mp hb]
    obtain ⟨o, ho, _⟩ := hl
    exact ⟨Heap.lt_size (kF.keep _ _ ho), .inl ⟨o, ho⟩⟩
  · rintro i ys nw ⟨rs, oc, own, rfl, rfl, _⟩
    rw [List.length_map]; exact Nat.le_refl _
  · rintro i u ys nw I1 oI1 C oC D m₂ h2 tk2 hi hv ⟨rs, oc, own, rfl, hrl, rfl, ⟨vv, hoc⟩, hown, hrs⟩ F2 N2 hC off ne
    have Nc := N2 (c, oc) (.tail _ (.tail _ (.tail _ (.head _))))
    have offm := off.mem
    have hcI := offm (c, oc) (.head _)
    refine wpAny_assign_Name (wpAny_storeName_cell (c := c) (v₀ := vv) rfl (by rfl) rfl ⟨oc, Nc.1, hoc⟩ fun h3 hv3 hs3 => ?_)
    obtain ⟨oc3, hg3, hd3⟩ := hv3
    have F3 : Fr s.heap L' h3 mm := F2.change hs3 Nc.2.1 Nc.2.2
    have N3 : News s.heap L' h3 ((I1, oI1) :: (C, oC) :: (D, PyProof.Rows.LCg.lst (rs.map Value.ref)) :: (c, oc3) :: (L' + 1, oR) :: own) := by
      intro p hp
      rcases List.mem_cons.mp hp with rfl | hp
      · exact ⟨hs3.extBut _ _ (fun e => hcI.1 e.symm) (N2 _ (.head _)).1, (N2 _ (.head _)).2⟩
      rcases List.mem_cons.mp hp with rfl | hp
      · exact ⟨hs3.extBut _ _ (fun e => hcI.2.1 e.symm) (N2 _ (.tail _ (.head _))).1, (N2 _ (.tail _ (.head _))).2⟩
      rcases List.mem_cons.mp hp with rfl | hp
      · exact ⟨hs3.extBut _ _ (fun e => hcI.2.2 e.symm) (N2 _ (.tail _ (.tail _ (.head _)))).1, (N2 _ (.tail _ (.tail _ (.head _)))).2⟩
      rcases List.mem_cons.mp hp with rfl | hp
      · exact ⟨hg3, Nc.2⟩
      rcases List.mem_cons.mp hp with rfl | hp
      · exact ⟨hs3.extBut _ _ hRc (N2 _ (.tail _ (.tail _ (.tail _ (.tail _ (.head _)))))).1, (N2 _ (.tail _ (.tail _ (.tail _ (.tail _ (.head _)))))).2⟩
      · have z := N2 p (.tail _ (.tail _ (.tail _ (.tail _ (.tail _ hp)))))
        refine ⟨hs3.extBut _ _ (fun e => ?_) z.1, z.2⟩
        have := z.1
        rw [e, Nc.1] at this
        exact hown p hp vv (by rw [← Option.some.inj this]; exact hoc)
    clear F2 N2 Nc
    refine wpAny_tests_nil ?_
    simp only [if_true]
    refine CM.expr (F₀ := F3) (cl := [(PySem.Str.ofString "a", c)]) (by with_unfolding_all rfl) (by decide) (by rfl) (by decide) ?_
    refine lcf_cell N3 rfl (.tail _ (.tail _ (.tail _ (.tail _ (.head _))))) hR ?_ rfl rfl
    refine ⟨_, _, _, _, (fun j ys2 nw2 => ∃ (ts : List Addr) (tp : List (Addr × Obj)), ys2 = ts.map Value.ref ∧ ts.length = j ∧ nw2 = (I1, oI1) :: (C, oC) :: (D, PyProof.Rows.LCg.lst (rs.map Value.ref)) :: (c, oc3) :: (L' + 1, oR) :: (tp ++ own) ∧ (∀ p ∈ tp, ((@Ne Nat p.1 I1) ∧ (@Ne Nat p.1 C) ∧ (@Ne Nat p.1 D)) ∧ ∀ vv, p.2.data ≠ .cell vv) ∧
        ∀ j' t, ts[j']? = some t → ∃ k, (t, ({ cls := .type "tuple", data := .seq #[.bool (ltK i j'), .bool (eqK i j')] k } : Obj)) ∈ tp),
      CM.iter_list (Room.hhd H) (hl.at fun o e => F3.keep _ _ e), ?_, F3, N3, ?_, ?_, ⟨[], [], rfl, rfl, rfl, (fun p hp => nomatch hp), (fun i r h => by cases h)⟩, ?_, ?_⟩
    · rw [sizeLine_eq]; omega
    · intro b hb
      rw [List.mem_singleton.mp hb]
      obtain ⟨o, ho, _⟩ := hl
      exact ⟨Heap.lt_size (F3.keep _ _ ho), .inl ⟨o, ho⟩⟩
    · rintro i ys nw ⟨ts, tp, rfl, rfl, _⟩
      rw [List.length_map]; exact Nat.le_refl _
    · rintro j v2 ys2 nw2 I2 oI2 C2 oC2 D2 m3 h4 tk4 hj hv2 ⟨ts, tp, rfl, htl, rfl, htp, hts⟩ F4 N4 hC4 off4 ne4
      refine CM.asg_name F4 N4 hC4 ne4.1 (CM.offC ne4 off4) (by rfl) (by rfl) ?_
      intro h5 oC5 tk5 F5 N5 hC5
      refine wpAny_tests_nil ?_
      simp only [if_true]
      walk_at "mine go"
      refine (HK _ _ i j u v2 (fun b o e => F5.keep b o e) ?hu hv hv2).2 _ _ _ _ ?_
      case hu => have h9 := H.hu; show A.units + 3 + 2 < cLine; omega
      walk_at "mine go"
      refine (HK _ _ i j u v2 (fun b o e => F5.keep b o e) ?hu hv hv2).1 _ _ _ _ ?_
      case hu => have h9 := H.hu; show A.units + 3 + 2 < cLine; omega
      walk_at "mine go"
      (rename Fr _ _ _ _ => kF'); (rename News _ _ _ _ => kN')
      rename_i T h6 l1
      obtain ⟨a1, a2, a3, a4, a5, a6, a7, a8, a9⟩ := l1
      refine CM.End.mk' kF' kN' hC5 (news' := (I1, oI1) :: (C, oC) :: (D, PyProof.Rows.LCg.lst (rs.map Value.ref)) :: (c, oc3) :: (L' + 1, oR) :: (T, ({ cls := .type "tuple", data := .seq #[.bool (ltK i j), .bool (eqK i j)] } : Obj)) :: (tp ++ own)) ?_ ?_ ⟨ts ++ [T], (T, ({ cls := .type "tuple", data := .seq #[.bool (ltK i j), .bool (eqK i j)] } : Obj)) :: tp, ?_, ?_, rfl, ?_, ?_⟩
      · intro p hp
        simp only [List.mem_cons] at hp ⊢
        rcases hp with h | h | h | h | h | h | h | h | h | h <;> simp [h]
      · have o4 := off4.mem
        refine PyProof.Rows.LCg.Off3.of fun p hp => ?_
        rcases List.mem_cons.mp hp with rfl | hp
        · exact o4 _ (.head _)
        rcases List.mem_cons.mp hp with rfl | hp
        · exact o4 _ (.tail _ (.head _))
        rcases List.mem_cons.mp hp with rfl | hp
        · exact o4 _ (.tail _ (.tail _ (.head _)))
        rcases List.mem_cons.mp hp with rfl | hp
        · exact o4 _ (.tail _ (.tail _ (.tail _ (.head _))))
        rcases List.mem_cons.mp hp with rfl | hp
        · exact o4 _ (.tail _ (.tail _ (.tail _ (.tail _ (.head _)))))
        rcases List.mem_cons.mp hp with rfl | hp
        · exact ⟨Nat.ne_of_gt a1, Nat.ne_of_gt a2, Nat.ne_of_gt a3⟩
        · exact o4 p (.tail _ (.tail _ (.tail _ (.tail _ (.tail _ hp)))))
      · rw [List.map_append]; rfl
      · rw [List.length_append, htl]; rfl
      · intro p hp
        rcases List.mem_cons.mp hp with rfl | hp
        · exact ⟨⟨Nat.ne_of_gt a4, Nat.ne_of_gt a5, Nat.ne_of_gt a6⟩, fun vv e => by cases e⟩
        · exact htp p hp
      · intro j' t e
        rcases Nat.lt_or_ge j' ts.length with hlt | hge
        · rw [List.getElem?_append_left hlt] at e
          exact let ⟨k, z⟩ := hts j' t e; ⟨k, .tail _ z⟩
        · rw [List.getElem?_append_right hge] at e
          have h0 : j' - ts.length = 0 := by
            rcases Nat.eq_zero_or_pos (j' - ts.length) with h | h
            · exact h
            · rw [List.getElem?_eq_none (by simp only [List.length_cons, List.length_nil]; omega)] at e; cases e
          have hij : j' = j := by omega
          rw [h0] at e; cases e
          subst hij
          exact ⟨_, .head _⟩
    · rintro D2 ys2 nw2 h4 tk4 ⟨ts, tp, rfl, htl, rfl, htp, hts⟩ F4 N4 o2
      have o2m := off1_mem o2
      refine CM.End.mk' F4 N4 hC (news' := (c, oc3) :: (L' + 1, oR) :: (D2, PyProof.Rows.LCg.lst (ts.map Value.ref)) :: (tp ++ own)) ?_ ?_ ⟨rs ++ [D2], oc3, (D2, PyProof.Rows.LCg.lst (ts.map Value.ref)) :: (tp ++ own), ?_, ?_, rfl, ⟨_, hd3⟩, ?_, ?_⟩
      · intro p hp
        simp only [List.mem_cons] at hp ⊢
        rcases hp with h | h | h | h | h | h | h <;> simp [h]
      · refine PyProof.Rows.LCg.Off3.of fun p hp => ?_
        rcases List.mem_cons.mp hp with rfl | hp
        · exact hcI
        rcases List.mem_cons.mp hp with rfl | hp
        · exact offm _ (.tail _ (.head _))
        rcases List.mem_cons.mp hp with rfl | hp
        · exact ⟨fun e => o2m _ (.head _) e.symm, fun e => o2m _ (.tail _ (.head _)) e.symm, fun e => o2m _ (.tail _ (.tail _ (.head _))) e.symm⟩
        rcases List.mem_append.mp hp with hp | hp
        · exact (htp p hp).1
        · exact offm p (.tail _ (.tail _ hp))
      · rw [List.map_append]; rfl
      · rw [List.length_append, hrl]; rfl
      · intro p hp
        rcases List.mem_cons.mp hp with rfl | hp
        · intro vv e; cases e
        rcases List.mem_append.mp hp with hp | hp
        · exact (htp p hp).2
        · exact hown p hp
      · intro i' r e
        rcases Nat.lt_or_ge i' rs.length with hlt | hge
        · rw [List.getElem?_append_left hlt] at e
          exact (hrs i' r e).mono fun p hp => .tail _ (List.mem_append.mpr (.inr hp))
        · rw [List.getElem?_append_right hge] at e
          have h0 : i' - rs.length = 0 := by
            rcases Nat.eq_zero_or_pos (i' - rs.length) with h | h
            · exact h
            · rw [List.getElem?_eq_none (by simp only [List.length_cons, List.length_nil]; omega)] at e; cases e
          have hij : i' = i := by omega
          rw [h0] at e; cases e
          subst hij
          exact ⟨ts, _, .head _, htl, fun j t e => let ⟨k, z⟩ := hts j t e; ⟨k, .tail _ (List.mem_append.mpr (.inl z))⟩⟩
  · intro D ys nw h2 tk2 hJ F2 N2 o1
    obtain ⟨rs, oc, own, rfl, hrl, rfl, ⟨vv, hoc⟩, hown, hrs⟩ := hJ
    exact ⟨_, _, _, _, rfl, rfl, Fr.keep F2, (fun p hp => ⟨(N2 p hp).1, (N2 p hp).2.2⟩), D, rs, _, rfl, .head _, hrl, fun i r e => (hrs i r e).mono fun p hp => .tail _ (.tail _ (.tail _ hp))⟩
end
end
-- L9
section
section
local macro_rules | `(tactic| walk_at "mine go") => `(tactic| repeat' ((fail_if_success (with_reducible show Ret _ _ _ _)); first | (k_unfold; (try dsimp only)) | ((fail_if_success ((with_reducible show wpAny _ _ (subscriptTail _ _ _ _) _ _ _))); (fail_if_success (with_reducible show wpAny _ _ (exec (Stmt.Raise _ _ _) _) _ _ _)); (fail_if_success (with_reducible show wpAny _ _ (exec (Stmt.For _ _ _ _ _) _) _ _ _)); (fail_if_success (with_reducible show wpAny _ _ (exec (Stmt.While _ _ _ _) _) _ _ _)); (fail_if_success (with_reducible show wpAny _ _ (eval (Expr.ListComp _ _ _ _) _) _ _ _)); (fail_if_success (with_reducible show wpAny _ _ (exec (Stmt.Assign _ (Expr.ListComp _ _ _ _) _) _) _ _ _)); (first | walk1 | (dsimp only; walk1))) | fail "stop"))
variable {w : World} {A : Around} {E : Value → Shared → Prop} {s : Shared} {h₀ : Heap} {L : Addr} {m : PySem.Str → Option Value} {env : Env} {news own : List (Addr × Obj)}
/-- [g[1] for g in NAME] over pairs -/
theorem comp_widths {gl : Addr} {rs : List Addr} {its : List Item} {n : Nat} {nm : PySem.Str} {p1 p2 p3 p4 p5 p6 : Pos} {Q : Value → Shared → Prop} (hh : A.handled = none) (F : Fr h₀ L s.heap m) (N : News h₀ L s.heap news)
    (hmem : (gl, listOf (rs.map Value.ref).toArray n) ∈ news) (TA : TupsAt own rs its) (hs : ∀ p ∈ own, p ∈ news) (hlen : its.length ≤ 10)
    (hi : ∀ (Q : Value → Shared → Prop), Q (.ref gl) s → wpAny (model PySem.Challenge.pw_bk5003_01 w) A (eval (.Name nm p5) env) Q E s)
    (h : ∀ D ys h' tk, Fr h₀ L h' m → News h₀ L h' ((D, PyProof.Rows.LCg.lst ys) :: news) → (∀ p ∈ news, @Ne Nat p.1 D) → IntsAre ys (its.map fun it => (it.W : Int)) → Q (.ref D) { s with heap := h', toks := tk }) :
    wpAny (model PySem.Challenge.pw_bk5003_01 w) A (eval (.ListComp (.Subscript (.Name (PySem.Str.ofString "g") p1) (.Constant (.int 1) 0 p2) p3) [⟨.Name (PySem.Str.ofString "g") p4, .Name nm p5, [], 0⟩] { kind := .function, names := [(PySem.Str.ofString ".0", .local), (PySem.Str.ofString "g", .local)], isGenerator := false, isCoroutine := false, more := [] } p6) env) Q E s := by
  refine CM.expr (F₀ := F) (cl := []) (by with_unfolding_all rfl) (by decide) (by rfl) (by decide) (hi _ ?_)
  refine ⟨_, _, _, _, (fun i ys nw => nw = news ∧ IntsAre ys ((its.take i).map fun it => (it.W : Int))), CM.iter_list hh (News.isList N hmem), ?_, F, N, ?_, ?_, ⟨rfl, .nil⟩, ?_, ?_⟩
  · rw [List.length_map, TA.1, sizeLine_eq]; omega
  · intro b hb
    rw [List.mem_singleton.mp hb]
    exact ⟨Heap.lt_size (N _ hmem).1, .inr ⟨_, fun i ys nw hJ => by rw [hJ.1]; exact hmem⟩⟩
  · rintro i ys nw ⟨_, hy⟩
    have := hy.length
    rw [List.length_map, List.length_take] at this
    omega
  · rintro i v ys nw I1 oI1 C oC D m₂ h2 tk2 hi' hv ⟨rfl, hys⟩ F2 N2 hC off ne
    rw [List.length_map, TA.1] at hi'
    obtain ⟨it, hit⟩ : ∃ it, its[i]? = some it := ⟨_, List.getElem?_eq_getElem hi'⟩
    obtain ⟨r, hr⟩ : ∃ r, rs[i]? = some r := ⟨_, List.getElem?_eq_getElem (by rw [TA.1]; exact hi')⟩
    obtain rfl : v = .ref r := by
      rw [List.getElem?_map, hr] at hv
      exact (Option.some.inj hv).symm
    obtain ⟨t, u, nn, hm⟩ := TA.2 i it r hit hr
    refine CM.asg_name F2 N2 hC ne.1 (CM.offC ne off) (by rfl) (by rfl) ?_
    intro h3 oC3 tk3 F3 N3 hC3
    refine wpAny_tests_nil ?_
    simp only [if_true]
    walk_at "mine go"
    refine' PySem.W.LCgL.ld_own ?N ?m ?C ?x ?_ ?a ?b ?c
    case N => exact N3
    case m => exact .tail _ (.head _)
    case C => exact hC3
    case a => rfl
    case b => rfl
    case c => decide
    case x => exact if_pos rfl
    walk_at "mine go"
    refine' RT.item_tup ?ht ?h0 ?hf ?hx ?_
    case ht => exact isTup_of N3 (.tail _ (.tail _ (.tail _ (hs _ hm))))
    case h0 => omega
    case hf => omega
    case hx => exact rfl
    refine CM.End.mk' F3 N3 hC3 (fun _ h => h) off ⟨rfl, ?_⟩
    rw [List.take_add_one, hit, List.map_append]
    exact hys.append (.cons _ _ .nil)
  · rintro D ys nw h2 tk2 ⟨rfl, hys⟩ F2 N2 o1
    rw [List.length_map, TA.1, List.take_length] at hys
    exact h D ys h2 tk2 F2 N2 (off1_mem o1) hys
end
theorem items_strs {α : Type} {f : α → PySem.Str} {its : List α} {ys : List Value} (h : TL.Items2 (fun it y => ∃ t, y = .str (f it) t) its ys) : StrsAre ys (its.map f) := by
  induction h with
  | nil => exact .nil
  | cons h1 _ ih => obtain ⟨t, rfl⟩ := h1; exact .cons _ _ ih
theorem TL.Items2.snoc {α : Type} {R : α → Value → Prop} {x : List α} {vs : List Value} (h : TL.Items2 R x vs) {a : α} {v : Value} (hv : R a v) : TL.Items2 R (x ++ [a]) (vs ++ [v]) := by
  induction h with
  | nil => exact .cons hv .nil
  | cons h1 _ ih => exact .cons h1 ih
section
variable {w : World} {A : Around} {E : Value → Shared → Prop} {s : Shared} {h₀ : Heap} {L : Addr} {m : PySem.Str → Option Value} {env : Env} {news own : List (Addr × Obj)}
/-- [ELT for kind, width in NAME] over pairs -/
theorem comp_pairs {elt : Expr} {gl : Addr} {rs : List Addr} {its : List Item} {n : Nat} {nm : PySem.Str} {p1 p2 p3 p5 p6 : Pos} {k : Nat} {scope : Scope} {cl : List (PySem.Str × Addr)} {Q : Value → Shared → Prop} (RV : Item → Value → Prop) (hh : A.handled = none) (F : Fr h₀ L s.heap m) (N : News h₀ L s.heap news)
    (hmem : (gl, listOf (rs.map Value.ref).toArray n) ∈ news) (TA : TupsAt own rs its) (hs : ∀ p ∈ own, p ∈ news) (hlen : its.length ≤ 10)
    (hi : ∀ (Q : Value → Shared → Prop), Q (.ref gl) s → wpAny (model PySem.Challenge.pw_bk5003_01 w) A (eval (.Name nm p5) env) Q E s)
    (hclos : closureFor scope env = pure cl) (hcell : ∀ y ∈ scope.names, y.2 ≠ .cell) (hkind : scope.kind = .function) (hnames : ∀ y ∈ scope.names, y.2 = .local → scope.names.lookup y.1 = some .local)
    (hx : scope.names.lookup (PySem.Str.ofString "kind") = some .local) (hy : scope.names.lookup (PySem.Str.ofString "width") = some .local)
    (turn : ∀ (it : Item) (t u : Tok) (I C D : Addr) (oI oC : Obj) (ys : List Value) (m₂ : PySem.Str → Option Value) (h : Heap) (tk : Nat), it ∈ its → Fr h₀ L h m → News h₀ L h ((I, oI) :: (C, oC) :: (D, PyProof.Rows.LCg.lst ys) :: news) → PyProof.Rows.LCg.NsObj oC m₂ →
      m₂ (PySem.Str.ofString "kind") = some (.str (RS.tx [it.k.sign]) t) → m₂ (PySem.Str.ofString "width") = some (.int (it.W : Int) u) →
      wpAny (model PySem.Challenge.pw_bk5003_01 w) A (eval elt (compEnvC scope cl C env)) (fun y s₅ => Put (∃ h' tk', s₅ = { s with heap := h', toks := tk' } ∧ Fr h₀ L h' m ∧ News h₀ L h' ((I, oI) :: (C, oC) :: (D, PyProof.Rows.LCg.lst ys) :: news) ∧ RV it y)) (fun _ _ => False) { s with heap := h, toks := tk })
    (h : ∀ D ys h' tk, Fr h₀ L h' m → News h₀ L h' ((D, PyProof.Rows.LCg.lst ys) :: news) → (∀ p ∈ news, @Ne Nat p.1 D) → TL.Items2 RV its ys → Q (.ref D) { s with heap := h', toks := tk }) :
    wpAny (model PySem.Challenge.pw_bk5003_01 w) A (eval (.ListComp elt [⟨.Tuple [.Name (PySem.Str.ofString "kind") p1, .Name (PySem.Str.ofString "width") p2] k p3, .Name nm p5, [], 0⟩] scope p6) env) Q E s := by
  refine CM.expr (F₀ := F) (cl := cl) hclos hcell hkind hnames (hi _ ?_)
  refine ⟨_, _, _, _, (fun i ys nw => nw = news ∧ TL.Items2 RV (its.take i) ys), CM.iter_list hh (News.isList N hmem), ?_, F, N, ?_, ?_, ⟨rfl, .nil⟩, ?_, ?_⟩
  · rw [List.length_map, TA.1, sizeLine_eq]; omega
  · intro b hb
    rw [List.mem_singleton.mp hb]
    exact ⟨Heap.lt_size (N _ hmem).1, .inr ⟨_, fun i ys nw hJ => by rw [hJ.1]; exact hmem⟩⟩
  · rintro i ys nw ⟨_, hy⟩
    have := hy.length
    rw [List.length_take] at this
    omega
  · rintro i v ys nw I1 oI1 C oC D m₂ h2 tk2 hi' hv ⟨rfl, hys⟩ F2 N2 hC off ne
    rw [List.length_map, TA.1] at hi'
    obtain ⟨it, hit⟩ : ∃ it, its[i]? = some it := ⟨_, List.getElem?_eq_getElem hi'⟩
    obtain ⟨r, hr⟩ : ∃ r, rs[i]? = some r := ⟨_, List.getElem?_eq_getElem (by rw [TA.1]; exact hi')⟩
    obtain rfl : v = .ref r := by
      rw [List.getElem?_map, hr] at hv
      exact (Option.some.inj hv).symm
    obtain ⟨t, u, nn, hm⟩ := TA.2 i it r hit hr
    refine CM.asg_pair hh F2 N2 (isTup_of N2 (.tail _ (.tail _ (.tail _ (hs _ hm))))) hC ne.1 (CM.offC ne off) hx hy hkind ?_
    intro h3 oC3 tk3 F3 N3 hC3
    refine wpAny_tests_nil ?_
    simp only [if_true]
    refine wpAny_mono (turn it t u I1 C D oI1 oC3 ys _ h3 tk3 (List.mem_of_getElem? hit) F3 N3 hC3 (by walk_at "mine look") (by walk_at "mine look")) ?_ (fun _ _ h => h.elim)
    rintro y s₅ ⟨h5, tk5, rfl, F5, N5, hy5⟩
    refine CM.End.mk' F5 N5 hC3 (fun _ h => h) off ⟨rfl, ?_⟩
    rw [List.take_add_one, hit]
    exact hys.snoc hy5
  · rintro D ys nw h2 tk2 ⟨rfl, hys⟩ F2 N2 o1
    rw [List.length_map, TA.1, List.take_length] at hys
    exact h D ys h2 tk2 F2 N2 (off1_mem o1) hys
/-- NAME2 = [ELT for kind, width in NAME] over pairs -/
theorem asn_pairs {elt : Expr} {yv : PySem.Str} {py spos : Pos} {gl : Addr} {rs : List Addr} {its : List Item} {n : Nat} {nm : PySem.Str} {p1 p2 p3 p5 p6 : Pos} {k : Nat} {scope : Scope} {cl : List (PySem.Str × Addr)} {Q : Flow → Shared → Prop} (RV : Item → Value → Prop) (hh : A.handled = none) (F : Fr h₀ L s.heap m) (N : News h₀ L s.heap news)
    (hmem : (gl, listOf (rs.map Value.ref).toArray n) ∈ news) (TA : TupsAt own rs its) (hs : ∀ p ∈ own, p ∈ news) (hlen : its.length ≤ 10)
    (hi : ∀ (Q : Value → Shared → Prop), Q (.ref gl) s → wpAny (model PySem.Challenge.pw_bk5003_01 w) A (eval (.Name nm p5) env) Q E s)
    (hLe : env.locals = L) (hsw : swapsWith (.ListComp elt [⟨.Tuple [.Name (PySem.Str.ofString "kind") p1, .Name (PySem.Str.ofString "width") p2] k p3, .Name nm p5, [], 0⟩] scope p6) (some (.Name yv py)) spos.line env = pure true) (hyl : env.kindOf yv = some .local) (hpm : (env.scope.kind == .class || (env.scope.kind == .module && env.locals != env.globals)) = false)
    (hclos : closureFor scope env = pure cl) (hcell : ∀ y ∈ scope.names, y.2 ≠ .cell) (hkind : scope.kind = .function) (hnames : ∀ y ∈ scope.names, y.2 = .local → scope.names.lookup y.1 = some .local)
    (hx : scope.names.lookup (PySem.Str.ofString "kind") = some .local) (hy : scope.names.lookup (PySem.Str.ofString "width") = some .local)
    (turn : ∀ (it : Item) (t u : Tok) (I C D : Addr) (oI oC : Obj) (ys : List Value) (m₂ : PySem.Str → Option Value) (h : Heap) (tk : Nat), it ∈ its → Fr h₀ L h m → News h₀ L h ((I, oI) :: (C, oC) :: (D, PyProof.Rows.LCg.lst ys) :: news) → PyProof.Rows.LCg.NsObj oC m₂ →
      m₂ (PySem.Str.ofString "kind") = some (.str (RS.tx [it.k.sign]) t) → m₂ (PySem.Str.ofString "width") = some (.int (it.W : Int) u) →
      wpAny (model PySem.Challenge.pw_bk5003_01 w) A (eval elt (compEnvC scope cl C env)) (fun y s₅ => Put (∃ h' tk', s₅ = { s with heap := h', toks := tk' } ∧ Fr h₀ L h' m ∧ News h₀ L h' ((I, oI) :: (C, oC) :: (D, PyProof.Rows.LCg.lst ys) :: news) ∧ RV it y)) (fun _ _ => False) { s with heap := h, toks := tk })
    (h : ∀ D ys h' tk, Fr h₀ L h' (fun z => if z = yv then some (.ref D) else m z) → News h₀ L h' ((D, PyProof.Rows.LCg.lst ys) :: news) → (∀ p ∈ news, @Ne Nat p.1 D) → TL.Items2 RV its ys → Q .next { s with heap := h', toks := tk }) :
    wpAny (model PySem.Challenge.pw_bk5003_01 w) A (exec (.Assign [.Name yv py] (.ListComp elt [⟨.Tuple [.Name (PySem.Str.ofString "kind") p1, .Name (PySem.Str.ofString "width") p2] k p3, .Name nm p5, [], 0⟩] scope p6) spos) env) Q E s := by
  refine CM.asn (F₀ := F) (cl := cl) hLe hsw hclos hcell hkind hnames hyl hpm (hi _ ?_)
  refine ⟨_, _, _, _, (fun i ys nw => nw = news ∧ TL.Items2 RV (its.take i) ys), CM.iter_list hh (News.isList N hmem), ?_, F, N, ?_, ?_, ⟨rfl, .nil⟩, ?_, ?_⟩
  · rw [List.length_map, TA.1, sizeLine_eq]; omega
  · intro b hb
    rw [List.mem_singleton.mp hb]
    exact ⟨Heap.lt_size (N _ hmem).1, .inr ⟨_, fun i ys nw hJ => by rw [hJ.1]; exact hmem⟩⟩
  · rintro i ys nw ⟨_, hy⟩
    have := hy.length
    rw [List.length_take] at this
    omega
  · rintro i v ys nw I1 oI1 C oC D m₂ h2 tk2 hi' hv ⟨rfl, hys⟩ F2 N2 hC off ne
    rw [List.length_map, TA.1] at hi'
    obtain ⟨it, hit⟩ : ∃ it, its[i]? = some it := ⟨_, List.getElem?_eq_getElem hi'⟩
    obtain ⟨r, hr⟩ : ∃ r, rs[i]? = some r := ⟨_, List.getElem?_eq_getElem (by rw [TA.1]; exact hi')⟩
    obtain rfl : v = .ref r := by
      rw [List.getElem?_map, hr] at hv
      exact (Option.some.inj hv).symm
    obtain ⟨t, u, nn, hm⟩ := TA.2 i it r hit hr
    refine CM.asg_pair hh F2 N2 (isTup_of N2 (.tail _ (.tail _ (.tail _ (hs _ hm))))) hC ne.1 (CM.offC ne off) hx hy hkind ?_
    intro h3 oC3 tk3 F3 N3 hC3
    refine wpAny_tests_nil ?_
    simp only [if_true]
    refine wpAny_mono (turn it t u I1 C D oI1 oC3 ys _ h3 tk3 (List.mem_of_getElem? hit) F3 N3 hC3 (by walk_at "mine look") (by walk_at "mine look")) ?_ (fun _ _ h => h.elim)
    rintro y s₅ ⟨h5, tk5, rfl, F5, N5, hy5⟩
    refine CM.End.mk' F5 N5 hC3 (fun _ h => h) off ⟨rfl, ?_⟩
    rw [List.take_add_one, hit]
    exact hys.snoc hy5
  · rintro D ys nw h2 tk2 ⟨rfl, hys⟩ F2 N2 o1
    rw [List.length_map, TA.1, List.take_length] at hys
    exact h D ys h2 tk2 F2 N2 (off1_mem o1) hys
/-- NAME2 = [ELT for kind, width in NAME if TEST] over pairs -/
theorem asn_pairs_if {elt tst : Expr} (ok : Item → Bool) {yv : PySem.Str} {py spos : Pos} {gl : Addr} {rs : List Addr} {its : List Item} {n : Nat} {nm : PySem.Str} {p1 p2 p3 p5 p6 : Pos} {k : Nat} {scope : Scope} {cl : List (PySem.Str × Addr)} {Q : Flow → Shared → Prop} (RV : Item → Value → Prop) (hh : A.handled = none) (F : Fr h₀ L s.heap m) (N : News h₀ L s.heap news)
    (hmem : (gl, listOf (rs.map Value.ref).toArray n) ∈ news) (TA : TupsAt own rs its) (hs : ∀ p ∈ own, p ∈ news) (hlen : its.length ≤ 10)
    (hi : ∀ (Q : Value → Shared → Prop), Q (.ref gl) s → wpAny (model PySem.Challenge.pw_bk5003_01 w) A (eval (.Name nm p5) env) Q E s)
    (hLe : env.locals = L) (hsw : swapsWith (.ListComp elt [⟨.Tuple [.Name (PySem.Str.ofString "kind") p1, .Name (PySem.Str.ofString "width") p2] k p3, .Name nm p5, [tst], 0⟩] scope p6) (some (.Name yv py)) spos.line env = pure true) (hyl : env.kindOf yv = some .local) (hpm : (env.scope.kind == .class || (env.scope.kind == .module && env.locals != env.globals)) = false)
    (hclos : closureFor scope env = pure cl) (hcell : ∀ y ∈ scope.names, y.2 ≠ .cell) (hkind : scope.kind = .function) (hnames : ∀ y ∈ scope.names, y.2 = .local → scope.names.lookup y.1 = some .local)
    (hx : scope.names.lookup (PySem.Str.ofString "kind") = some .local) (hy : scope.names.lookup (PySem.Str.ofString "width") = some .local)
    (test : ∀ (it : Item) (t u : Tok) (I C D : Addr) (oI oC : Obj) (ys : List Value) (m₂ : PySem.Str → Option Value) (h : Heap) (tk : Nat), it ∈ its → Fr h₀ L h m → News h₀ L h ((I, oI) :: (C, oC) :: (D, PyProof.Rows.LCg.lst ys) :: news) → PyProof.Rows.LCg.NsObj oC m₂ →
      m₂ (PySem.Str.ofString "kind") = some (.str (RS.tx [it.k.sign]) t) → m₂ (PySem.Str.ofString "width") = some (.int (it.W : Int) u) →
      wpAny (model PySem.Challenge.pw_bk5003_01 w) A (isTrue tst (compEnvC scope cl C env) (eval tst (compEnvC scope cl C env))) (fun y s₅ => Put (∃ h' tk', s₅ = { s with heap := h', toks := tk' } ∧ Fr h₀ L h' m ∧ News h₀ L h' ((I, oI) :: (C, oC) :: (D, PyProof.Rows.LCg.lst ys) :: news) ∧ y = ok it)) (fun _ _ => False) { s with heap := h, toks := tk })
    (turn : ∀ (it : Item) (t u : Tok) (I C D : Addr) (oI oC : Obj) (ys : List Value) (m₂ : PySem.Str → Option Value) (h : Heap) (tk : Nat), it ∈ its → ok it = true → Fr h₀ L h m → News h₀ L h ((I, oI) :: (C, oC) :: (D, PyProof.Rows.LCg.lst ys) :: news) → PyProof.Rows.LCg.NsObj oC m₂ →
      m₂ (PySem.Str.ofString "kind") = some (.str (RS.tx [it.k.sign]) t) → m₂ (PySem.Str.ofString "width") = some (.int (it.W : Int) u) →
      wpAny (model PySem.Challenge.pw_bk5003_01 w) A (eval elt (compEnvC scope cl C env)) (fun y s₅ => Put (∃ h' tk', s₅ = { s with heap := h', toks := tk' } ∧ Fr h₀ L h' m ∧ News h₀ L h' ((I, oI) :: (C, oC) :: (D, PyProof.Rows.LCg.lst ys) :: news) ∧ RV it y)) (fun _ _ => False) { s with heap := h, toks := tk })
    (h : ∀ D ys h' tk, Fr h₀ L h' (fun z => if z = yv then some (.ref D) else m z) → News h₀ L h' ((D, PyProof.Rows.LCg.lst ys) :: news) → (∀ p ∈ news, @Ne Nat p.1 D) → TL.Items2 RV (its.filter ok) ys → Q .next { s with heap := h', toks := tk }) :
    wpAny (model PySem.Challenge.pw_bk5003_01 w) A (exec (.Assign [.Name yv py] (.ListComp elt [⟨.Tuple [.Name (PySem.Str.ofString "kind") p1, .Name (PySem.Str.ofString "width") p2] k p3, .Name nm p5, [tst], 0⟩] scope p6) spos) env) Q E s := by
  refine CM.asn (F₀ := F) (cl := cl) hLe hsw hclos hcell hkind hnames hyl hpm (hi _ ?_)
  refine ⟨_, _, _, _, (fun i ys nw => nw = news ∧ TL.Items2 RV ((its.take i).filter ok) ys), CM.iter_list hh (News.isList N hmem), ?_, F, N, ?_, ?_, ⟨rfl, .nil⟩, ?_, ?_⟩
  · rw [List.length_map, TA.1, sizeLine_eq]; omega
  · intro b hb
    rw [List.mem_singleton.mp hb]
    exact ⟨Heap.lt_size (N _ hmem).1, .inr ⟨_, fun i ys nw hJ => by rw [hJ.1]; exact hmem⟩⟩
  · rintro i ys nw ⟨_, hy⟩
    have := hy.length
    have h2 := List.length_filter_le ok (its.take i)
    rw [List.length_take] at h2
    omega
  · rintro i v ys nw I1 oI1 C oC D m₂ h2 tk2 hi' hv ⟨rfl, hys⟩ F2 N2 hC off ne
    rw [List.length_map, TA.1] at hi'
    obtain ⟨it, hit⟩ : ∃ it, its[i]? = some it := ⟨_, List.getElem?_eq_getElem hi'⟩
    obtain ⟨r, hr⟩ : ∃ r, rs[i]? = some r := ⟨_, List.getElem?_eq_getElem (by rw [TA.1]; exact hi')⟩
    obtain rfl : v = .ref r := by
      rw [List.getElem?_map, hr] at hv
      exact (Option.some.inj hv).symm
    obtain ⟨t, u, nn, hm⟩ := TA.2 i it r hit hr
    refine CM.asg_pair hh F2 N2 (isTup_of N2 (.tail _ (.tail _ (.tail _ (hs _ hm))))) hC ne.1 (CM.offC ne off) hx hy hkind ?_
    intro h3 oC3 tk3 F3 N3 hC3
    refine wpAny_tests_one ?_
    refine wpAny_mono (test it t u I1 C D oI1 oC3 ys _ h3 tk3 (List.mem_of_getElem? hit) F3 N3 hC3 (by walk_at "mine look") (by walk_at "mine look")) ?_ (fun _ _ h => h.elim)
    rintro y s₅ ⟨h5, tk5, rfl, F5, N5, rfl⟩
    cases hok : ok it with
    | false =>
      rw [if_neg Bool.false_ne_true]
      refine CM.End.mk' F5 N5 hC3 (fun _ h => h) off ⟨rfl, ?_⟩
      rw [List.take_add_one, hit, List.filter_append]
      show TL.Items2 RV (_ ++ List.filter ok [it]) ys
      rw [List.filter_cons_of_neg (by rw [hok]; exact Bool.false_ne_true)]
      simpa using hys
    | true =>
      rw [if_pos rfl]
      refine wpAny_mono (turn it t u I1 C D oI1 oC3 ys _ h5 tk5 (List.mem_of_getElem? hit) hok F5 N5 hC3 (by walk_at "mine look") (by walk_at "mine look")) ?_ (fun _ _ h => h.elim)
      rintro y s₅ ⟨h5, tk5, rfl, F5, N5, hy5⟩
      refine CM.End.mk' F5 N5 hC3 (fun _ h => h) off ⟨rfl, ?_⟩
      rw [List.take_add_one, hit, List.filter_append]
      show TL.Items2 RV (_ ++ List.filter ok [it]) _
      rw [List.filter_cons_of_pos hok]
      exact hys.snoc hy5
  · rintro D ys nw h2 tk2 ⟨rfl, hys⟩ F2 N2 o1
    rw [List.length_map, TA.1, List.take_length] at hys
    exact h D ys h2 tk2 F2 N2 (off1_mem o1) hys
end
theorem items_ints {α : Type} {f : α → Int} {its : List α} {ys : List Value} (h : TL.Items2 (fun it y => ∃ t, y = .int (f it) t) its ys) : IntsAre ys (its.map f) := by
  induction h with
  | nil => exact .nil
  | cons h1 _ ih => obtain ⟨t, rfl⟩ := h1; exact .cons _ _ ih
end
-- L10
section
section
variable {prog : Program} {w : World} {A : Around} {E : Value → Shared → Prop} {s : Shared} {env : Env} {h₀ : Heap} {m : PySem.Str → Option Value} {news : List (Addr × Obj)}
/-- where a turn ends, generators used up in it -/
def TurnG (h₀ : Heap) (L : Addr) (J : (PySem.Str → Option Value) → List (Addr × Obj) → Prop) (s s₃ : Shared) : Prop :=
  ∃ h' tk gs m' news', s₃ = { s with heap := h', toks := tk, gens := gs } ∧ (AllBare s.gens → AllBare gs) ∧ Fr h₀ L h' m' ∧ News h₀ L h' news' ∧ J m' news'
def TurnPG (h₀ : Heap) (L : Addr) (J : (PySem.Str → Option Value) → List (Addr × Obj) → Prop) (s : Shared) (Q : Flow → Shared → Prop) (f : Flow) (s₃ : Shared) : Prop :=
  match f with
  | .next => TurnG h₀ L J s s₃
  | .cont => TurnG h₀ L J s s₃
  | .brk => Q .next s₃
  | .ret v => Q (.ret v) s₃
theorem TurnG.mk' {L : Addr} {J : (PySem.Str → Option Value) → List (Addr × Obj) → Prop} {h' : Heap} {tk : Nat} {gs : Array GenState} {m' : PySem.Str → Option Value} {news' : List (Addr × Obj)} (hb : AllBare s.gens → AllBare gs) (F : Fr h₀ L h' m') (N : News h₀ L h' news') (hJ : J m' news') :
    TurnG h₀ L J s { s with heap := h', toks := tk, gens := gs } := ⟨h', tk, gs, m', news', rfl, hb, F, N, hJ⟩
/-- one statement that may use up generators, then forget all but what Pm says -/
def CutG (h₀ : Heap) (L : Addr) (Pm : (PySem.Str → Option Value) → List (Addr × Obj) → Prop) (s : Shared) (f : Flow) (s' : Shared) : Prop :=
  match f with
  | .next => TurnG h₀ L Pm s s'
  | _ => False
theorem cut_stmtG {st : Stmt} {rest : List Stmt} {Q : Flow → Shared → Prop} {L : Addr} (Pm : (PySem.Str → Option Value) → List (Addr × Obj) → Prop)
    (h1 : wpAny (model prog w) A (exec st env) (CutG h₀ L Pm s) E s)
    (h2 : ∀ h tk gs m news, (AllBare s.gens → AllBare gs) → Fr h₀ L h m → News h₀ L h news → Pm m news → wpAny (model prog w) A (execs rest env) Q E { s with heap := h, toks := tk, gens := gs }) : wpAny (model prog w) A (execs (st :: rest) env) Q E s := by
  refine wpAny_execs_cons (wpAny_mono h1 (fun f s' h => ?_) fun _ _ y => y)
  cases f with
  | next =>
    obtain ⟨h', tk, gs, m', news', rfl, hb, F, N, p⟩ := h
    exact h2 h' tk gs m' news' hb F N p
  | _ => exact h.elim
theorem for_coreG {L : Addr} (hL : env.locals = L) {target : Expr} {body : List Stmt} {R : Result → Shared → Prop} {I : Addr} {fp : List Addr} {n : Nat} {P : Nat → Value → Prop} {St : Nat → Heap → Prop}
    (W : Walks prog w A I fp [I] n P St) (J : Nat → (PySem.Str → Option Value) → List (Addr × Obj) → Prop)
    (F : Fr h₀ L s.heap m) (N : News h₀ L s.heap news) (hst : St 0 s.heap) (hI0 : h₀.get? I = none) (hIL : L ≠ I) (hIn : ∀ p ∈ news, p.1 ≠ I)
    (hlive : ∀ i h, St i h → ∃ o, h.get? I = some o)
    (hfp : ∀ b ∈ fp, b ≠ I → (∃ o, h₀.get? b = some o) ∨ ∃ o, ∀ i m news, J i m news → (b, o) ∈ news)
    (hgo : ∀ i (s' : Shared) v (Q' : Unit → Shared → Prop), St i s'.heap → Q' () s' → wpAny (model prog w) A (letOwnedTupleGo target (.ref I) v) Q' (fun _ _ => False) s')
    (h0 : J 0 m news)
    (turn : ∀ i v m news h tk gs oI, i < n → P i v → J i m news → (AllBare s.gens → AllBare gs) → Fr h₀ L h m → News h₀ L h ((I, oI) :: news) → (∀ p ∈ news, p.1 ≠ I) →
      wpAny (model prog w) A (assign target env v) (fun _ s₂ => wpAny (model prog w) A (execs body env)
        (TurnPG h₀ L (fun m' news' => ∃ nx, news' = (I, oI) :: nx ∧ (∀ p ∈ nx, p.1 ≠ I) ∧ J (i + 1) m' nx) s (fun f s₃ => R (.ok f) s₃)) (fun _ _ => False) s₂) (fun _ _ => False) { s with heap := h, toks := tk, gens := gs })
    (done : ∀ m news h tk gs, J n m news → (AllBare s.gens → AllBare gs) → Fr h₀ L h m → News h₀ L h news → R (.ok .next) { s with heap := h, toks := tk, gens := gs }) :
    codeAny (model prog w) A (.forLoop target (.ref I) body [] env) R s := by
  subst hL
  refine codeAny_forLoop_any
    (fun k s' => ∃ h' tk gs m' news' i, s' = { s with heap := h', toks := tk, gens := gs } ∧ (AllBare s.gens → AllBare gs) ∧ St i h' ∧ Fr h₀ env.locals h' m' ∧ News h₀ env.locals h' news' ∧ (∀ p ∈ news', p.1 ≠ I) ∧ J i m' news' ∧ i ≤ n ∧ k = n + 1 - i) ?_ (n + 1)
    ⟨s.heap, s.toks, s.gens, m, news, 0, rfl, (fun h => h), hst, F, N, hIn, h0, Nat.zero_le _, rfl⟩
  rintro k s' ⟨h', tk, gs, m', news', i, rfl, hb, hst', F', N', hnI, hJ, hi, rfl⟩
  have next : ∀ h₁ : Heap, (∀ b o, b ∉ [I] → h'.get? b = some o → h₁.get? b = some o) → Fr h₀ env.locals h₁ m' ∧ News h₀ env.locals h₁ news' := fun h₁ hk₁ =>
    ⟨⟨F'.ns.at' fun o e => hk₁ _ o (fun q => hIL (List.mem_singleton.mp q)) e, fun b o e => hk₁ b o (fun q => by rw [List.mem_singleton.mp q, hI0] at e; cases e) (F'.keep b o e), F'.above⟩,
      fun p hp => ⟨hk₁ _ _ (fun q => hnI p hp (List.mem_singleton.mp q)) (N' p hp).1, (N' p hp).2⟩⟩
  by_cases hlt : i < n
  · refine W.item i _ _ _ hlt hst' fun v h₁ tk₁ hP hst₁ hk₁ => ?_
    obtain ⟨F₁, N₁⟩ := next h₁ hk₁
    obtain ⟨oI, hoI⟩ := hlive _ _ hst₁
    have N₁' : News h₀ env.locals h₁ ((I, oI) :: news') := fun p hp => by
      rcases List.mem_cons.mp hp with rfl | hp
      · exact ⟨hoI, fun e => hIL e.symm, hI0⟩
      · exact N₁ p hp
    refine wpAny_mono (hgo (i + 1) { s with heap := h₁, toks := tk₁, gens := gs } v (fun _ s' => s' = { s with heap := h₁, toks := tk₁, gens := gs }) hst₁ rfl) (fun _ s' e => ?_) fun _ _ x => x.elim
    subst e
    refine wpAny_mono (turn i v m' news' h₁ tk₁ gs oI hlt hP hJ hb F₁ N₁' hnI) (fun _ s₂ h₂ => wpAny_mono h₂ (fun f s₃ h₃ => ?_) fun _ _ x => x.elim) fun _ _ x => x.elim
    have fin : TurnG h₀ env.locals (fun m' news' => ∃ nx, news' = (I, oI) :: nx ∧ (∀ p ∈ nx, p.1 ≠ I) ∧ J (i + 1) m' nx) s s₃ → ∃ k', k' < n + 1 - i ∧ ∃ h' tk gs m' news' i', s₃ = { s with heap := h', toks := tk, gens := gs } ∧ (AllBare s.gens → AllBare gs) ∧ St i' h' ∧ Fr h₀ env.locals h' m' ∧ News h₀ env.locals h' news' ∧ (∀ p ∈ news', p.1 ≠ I) ∧ J i' m' news' ∧ i' ≤ n ∧ k' = n + 1 - i' := by
      rintro ⟨h₃', tk₃, gs₃, m₂, news₂, rfl, hb₃, F₃, N₃, nx, rfl, hnx, hJ₃⟩
      refine ⟨n + 1 - (i + 1), by omega, h₃', tk₃, gs₃, m₂, nx, i + 1, rfl, hb₃, ?_, F₃, fun p hp => N₃ p (.tail _ hp), hnx, hJ₃, hlt, rfl⟩
      refine W.frame _ _ _ hst₁ fun b hb o e => ?_
      by_cases hbI : b = I
      · subst hbI
        rw [hoI] at e; cases e
        exact (N₃ (b, oI) (.head _)).1
      · rcases hfp b hb hbI with ⟨o', ho'⟩ | ⟨o', ho'⟩
        · have : o' = o := by have := F₁.keep b o' ho'; rw [e] at this; exact (Option.some.inj this).symm
          exact this ▸ F₃.keep b o' ho'
        · have e1 := (N₁ (b, o') (ho' _ _ _ hJ)).1
          have : o' = o := by rw [e] at e1; exact (Option.some.inj e1).symm
          exact this ▸ (N₃ (b, o') (.tail _ (ho' _ _ _ hJ₃))).1
    cases f with
    | next => exact fin h₃
    | cont => exact fin h₃
    | brk => exact h₃
    | ret v => exact h₃
  · have hin : i = n := by omega
    subst hin
    refine W.done _ _ _ hst' fun h₁ tk₁ hk₁ => wpAny_execs_nil ?_
    obtain ⟨F₁, N₁⟩ := next h₁ hk₁
    exact done m' news' h₁ tk₁ gs hJ hb F₁ N₁
/-- for target in any source, generators used up in the turns -/
theorem for_itG {L : Addr} (hL : env.locals = L) {target : Expr} {body : List Stmt} {Q : Flow → Shared → Prop} {xv : Value} {P : Nat → Value → Prop} {n : Nat} {foot : List Addr}
    (It : CM.IterAt prog w A target xv P n foot s) (J : Addr → Nat → (PySem.Str → Option Value) → List (Addr × Obj) → Prop) (F : Fr h₀ L s.heap m) (N : News h₀ L s.heap news)
    (hf : ∀ b ∈ foot, (∃ o, h₀.get? b = some o) ∨ ∃ o, ∀ I i m news, J I i m news → (b, o) ∈ news)
    (h0 : ∀ I, (∀ p ∈ news, p.1 < I) → J I 0 m news)
    (turn : ∀ I i v m news h tk gs oI, i < n → P i v → J I i m news → (AllBare s.gens → AllBare gs) → Fr h₀ L h m → News h₀ L h ((I, oI) :: news) → (∀ p ∈ news, p.1 ≠ I) →
      wpAny (model prog w) A (assign target env v) (fun _ s₂ => wpAny (model prog w) A (execs body env)
        (TurnPG h₀ L (fun m' news' => ∃ nx, news' = (I, oI) :: nx ∧ (∀ p ∈ nx, p.1 ≠ I) ∧ J I (i + 1) m' nx) s Q) (fun _ _ => False) s₂) (fun _ _ => False) { s with heap := h, toks := tk, gens := gs })
    (done : ∀ I m news h tk gs, J I n m news → (AllBare s.gens → AllBare gs) → Fr h₀ L h m → News h₀ L h news → Q .next { s with heap := h, toks := tk, gens := gs }) :
    wpAny (model prog w) A (pyIter xv) (fun it s₂ => codeAny (model prog w) A (.forLoop target it body [] env) (fun r s' => match r with | .ok f => Q f s' | .error e => cameBackBy (model prog w) A env E e s') s₂) E s := by
  subst hL
  refine It _ _ fun o St hof W hlive hgo hst => ?_
  refine for_coreG rfl (R := fun r s' => match r with | .ok f => Q f s' | .error e => cameBackBy (model prog w) A env E e s') W (J s.heap.objs.size) (F.push _) (fun p hp => ⟨Heap.get?_push_of_some _ (N p hp).1, (N p hp).2⟩)
    hst (next_is_new F) (Nat.ne_of_lt F.ns.lt) (fun p hp => Nat.ne_of_lt (Heap.lt_size (N p hp).1)) hlive ?_ hgo (h0 _ fun p hp => Heap.lt_size (N p hp).1) ?_ ?_
  · intro b hb hbI
    rcases List.mem_cons.mp hb with rfl | hb
    · exact absurd rfl hbI
    · rcases hf b hb with h | ⟨o, h⟩
      · exact .inl h
      · exact .inr ⟨o, fun i m news hJ => h _ i m news hJ⟩
  · intro i v m₁ news₁ h tk gs oI hi hP hJ hb F₁ N₁ hn
    exact turn _ i v m₁ news₁ h tk gs oI hi hP hJ hb F₁ N₁ hn
  · intro m₁ news₁ h tk gs hJ hb F₁ N₁
    exact done _ m₁ news₁ h tk gs hJ hb F₁ N₁
end
namespace TL
open PySem.SeqAt (EqAt RcAt RcNeAt)
theorem all_true (n : Nat) : (List.range n).all (fun _ => true) = true := by simp
theorem refs_eq {A : Around} {s : Shared} {a b : Addr} (h : a ≠ b → RcAt A s (.ref a) (.ref b) true) : EqAt A s (.ref a) (.ref b) true := by
  by_cases e : a = b
  · subst e; exact EqAt.same _
  · exact EqAt.of_refs e (h e)
theorem lists_eq {A : Around} {s : Shared} {a b : Addr} {xs ys : List Value} (ha : s.heap.IsList a xs.toArray) (hb : s.heap.IsList b ys.toArray) (hl : xs.length = ys.length) (hu : A.units < cLine)
    (he : ∀ (j : Nat) (u v : Value), xs[j]? = some u → ys[j]? = some v → EqAt A.in1 s u v true) : RcAt A s (.ref a) (.ref b) true := by
  have h := RcAt.lists (e := fun _ => true) ha hb (by simpa using hl) hu (fun j h1 h2 => he j _ _ (by simp at h1 ⊢) (by simp at h2 ⊢))
  rwa [all_true] at h
theorem lists_ne {A : Around} {s : Shared} {a b : Addr} {xs ys : List Value} (ha : s.heap.IsList a xs.toArray) (hb : s.heap.IsList b ys.toArray) (hl : xs.length = ys.length) (hu : A.units < cLine)
    (he : ∀ (j : Nat) (u v : Value), xs[j]? = some u → ys[j]? = some v → EqAt A.in1 s u v true) : RcNeAt A s (.ref a) (.ref b) false := by
  have h := RcNeAt.lists (e := fun _ => true) ha hb (by simpa using hl) hu (fun j h1 h2 => he j _ _ (by simp at h1 ⊢) (by simp at h2 ⊢))
  rwa [all_true] at h
theorem tups_eq {A : Around} {s : Shared} {a b : Addr} {xs ys : List Value} (ha : IsTup s.heap a xs.toArray) (hb : IsTup s.heap b ys.toArray) (hl : xs.length = ys.length) (hu : A.units < cLine)
    (he : ∀ (j : Nat) (u v : Value), xs[j]? = some u → ys[j]? = some v → EqAt A.in1 s u v true) : RcAt A s (.ref a) (.ref b) true := by
  have h := RcAt.tuples (e := fun _ => true) (show s.heap.IsTuple _ _ from ha) (show s.heap.IsTuple _ _ from hb) hu (fun j h1 h2 => he j _ _ (by simp at h1 ⊢) (by simp at h2 ⊢))
  rw [all_true] at h
  simpa [hl] using h
theorem tups_ne {A : Around} {s : Shared} {a b : Addr} {xs ys : List Value} (ha : IsTup s.heap a xs.toArray) (hb : IsTup s.heap b ys.toArray) (hl : xs.length = ys.length) (hu : A.units < cLine)
    (he : ∀ (j : Nat) (u v : Value), xs[j]? = some u → ys[j]? = some v → EqAt A.in1 s u v true) : RcNeAt A s (.ref a) (.ref b) false := by
  have h := RcNeAt.tuples (e := fun _ => true) (show s.heap.IsTuple _ _ from ha) (show s.heap.IsTuple _ _ from hb) hu (fun j h1 h2 => he j _ _ (by simp at h1 ⊢) (by simp at h2 ⊢))
  rw [all_true] at h
  simpa [hl] using h
/-- values alike: the same but for their tokens -/
inductive Same : Value → Value → Prop
  | int (i t u) : Same (.int i t) (.int i u)
  | bool (b) : Same (.bool b) (.bool b)
  | str (x t u) : Same (.str x t) (.str x u)
  | bytes (b t u) : Same (.bytes b t) (.bytes b u)
theorem Same.eq {A : Around} {s : Shared} {u v : Value} (h : Same u v) : EqAt A s u v true := by
  cases h with
  | int i t u => have := EqAt.int_int (A := A) (s := s) i t i u; simpa using this
  | bool b => exact EqAt.same _
  | str x t u => have := EqAt.str_str (A := A) (s := s) x t x u; simpa using this
  | bytes b t u => intro prog w E Q h; exact eqBool_bytes (by simpa using h)
theorem lists_ne_same {A : Around} {s : Shared} {a b : Addr} {xs ys : List Value} (ha : s.heap.IsList a xs.toArray) (hb : s.heap.IsList b ys.toArray) (hl : xs.length = ys.length) (hu : A.units < cLine)
    (he : ∀ (j : Nat) (u v : Value), xs[j]? = some u → ys[j]? = some v → Same u v) : RcNeAt A s (.ref a) (.ref b) false := lists_ne ha hb hl hu fun j u v h1 h2 => (he j u v h1 h2).eq
theorem tups_ne_same {A : Around} {s : Shared} {a b : Addr} {xs ys : List Value} (ha : IsTup s.heap a xs.toArray) (hb : IsTup s.heap b ys.toArray) (hl : xs.length = ys.length) (hu : A.units < cLine)
    (he : ∀ (j : Nat) (u v : Value), xs[j]? = some u → ys[j]? = some v → Same u v) : RcNeAt A s (.ref a) (.ref b) false := tups_ne ha hb hl hu fun j u v h1 h2 => (he j u v h1 h2).eq
end TL
section
variable {w : World} {A : Around} {E : Value → Shared → Prop} {s : Shared} {h₀ : Heap} {L : Addr} {m : PySem.Str → Option Value} {env : Env} {news own : List (Addr × Obj)}
/-- [ELT for X in NAME] over values -/
theorem comp_vals {elt : Expr} {ax : Addr} {oa : Obj} {vs : List Value} {nm x : PySem.Str} {p4 p5 p6 : Pos} {scope : Scope} {cl : List (PySem.Str × Addr)} {Q : Value → Shared → Prop} (RV : Value → Value → Prop) (F : Fr h₀ L s.heap m) (N : News h₀ L s.heap news)
    (hmem : (ax, oa) ∈ news) (It : CM.IterAt PySem.Challenge.pw_bk5003_01 w A (.Name x p4) (.ref ax) (fun i v => vs[i]? = some v) vs.length [ax] s) (hlen : vs.length ≤ 10)
    (hi : ∀ (Q : Value → Shared → Prop), Q (.ref ax) s → wpAny (model PySem.Challenge.pw_bk5003_01 w) A (eval (.Name nm p5) env) Q E s)
    (hclos : closureFor scope env = pure cl) (hcell : ∀ y ∈ scope.names, y.2 ≠ .cell) (hkind : scope.kind = .function) (hnames : ∀ y ∈ scope.names, y.2 = .local → scope.names.lookup y.1 = some .local)
    (hx : scope.names.lookup x = some .local)
    (turn : ∀ (v : Value) (I C D : Addr) (oI oC : Obj) (ys : List Value) (m₂ : PySem.Str → Option Value) (h : Heap) (tk : Nat), v ∈ vs → Fr h₀ L h m → News h₀ L h ((I, oI) :: (C, oC) :: (D, PyProof.Rows.LCg.lst ys) :: news) → PyProof.Rows.LCg.NsObj oC m₂ →
      m₂ x = some v →
      wpAny (model PySem.Challenge.pw_bk5003_01 w) A (eval elt (compEnvC scope cl C env)) (fun y s₅ => Put (∃ h' tk', s₅ = { s with heap := h', toks := tk' } ∧ Fr h₀ L h' m ∧ News h₀ L h' ((I, oI) :: (C, oC) :: (D, PyProof.Rows.LCg.lst ys) :: news) ∧ RV v y)) (fun _ _ => False) { s with heap := h, toks := tk })
    (h : ∀ D ys h' tk, Fr h₀ L h' m → News h₀ L h' ((D, PyProof.Rows.LCg.lst ys) :: news) → (∀ p ∈ news, @Ne Nat p.1 D) → TL.Items2 RV vs ys → Q (.ref D) { s with heap := h', toks := tk }) :
    wpAny (model PySem.Challenge.pw_bk5003_01 w) A (eval (.ListComp elt [⟨.Name x p4, .Name nm p5, [], 0⟩] scope p6) env) Q E s := by
  refine CM.expr (F₀ := F) (cl := cl) hclos hcell hkind hnames (hi _ ?_)
  refine ⟨_, _, _, _, (fun i ys nw => nw = news ∧ TL.Items2 RV (vs.take i) ys), It, ?_, F, N, ?_, ?_, ⟨rfl, .nil⟩, ?_, ?_⟩
  · rw [sizeLine_eq]; omega
  · intro b hb
    rw [List.mem_singleton.mp hb]
    exact ⟨Heap.lt_size (N _ hmem).1, .inr ⟨_, fun i ys nw hJ => by rw [hJ.1]; exact hmem⟩⟩
  · rintro i ys nw ⟨_, hy⟩
    have := hy.length
    rw [List.length_take] at this
    omega
  · rintro i v ys nw I1 oI1 C oC D m₂ h2 tk2 hi' hv ⟨rfl, hys⟩ F2 N2 hC off ne
    refine CM.asg_name F2 N2 hC ne.1 (CM.offC ne off) hx hkind ?_
    intro h3 oC3 tk3 F3 N3 hC3
    refine wpAny_tests_nil ?_
    simp only [if_true]
    refine wpAny_mono (turn v I1 C D oI1 oC3 ys _ h3 tk3 (List.mem_of_getElem? hv) F3 N3 hC3 (if_pos rfl)) ?_ (fun _ _ h => h.elim)
    rintro y s₅ ⟨h5, tk5, rfl, F5, N5, hy5⟩
    refine CM.End.mk' F5 N5 hC3 (fun _ h => h) off ⟨rfl, ?_⟩
    rw [List.take_add_one, hv]
    exact hys.snoc hy5
  · rintro D ys nw h2 tk2 ⟨rfl, hys⟩ F2 N2 o1
    rw [List.take_length] at hys
    exact h D ys h2 tk2 F2 N2 (off1_mem o1) hys
/-- [ELT for X in NAME if TEST] over values -/
theorem comp_vals_if {elt tst : Expr} (ok : Value → Bool) {ax : Addr} {oa : Obj} {vs : List Value} {nm x : PySem.Str} {p4 p5 p6 : Pos} {scope : Scope} {cl : List (PySem.Str × Addr)} {Q : Value → Shared → Prop} (RV : Value → Value → Prop) (F : Fr h₀ L s.heap m) (N : News h₀ L s.heap news)
    (hmem : (ax, oa) ∈ news) (It : CM.IterAt PySem.Challenge.pw_bk5003_01 w A (.Name x p4) (.ref ax) (fun i v => vs[i]? = some v) vs.length [ax] s) (hlen : vs.length ≤ 10)
    (hi : ∀ (Q : Value → Shared → Prop), Q (.ref ax) s → wpAny (model PySem.Challenge.pw_bk5003_01 w) A (eval (.Name nm p5) env) Q E s)
    (hclos : closureFor scope env = pure cl) (hcell : ∀ y ∈ scope.names, y.2 ≠ .cell) (hkind : scope.kind = .function) (hnames : ∀ y ∈ scope.names, y.2 = .local → scope.names.lookup y.1 = some .local)
    (hx : scope.names.lookup x = some .local)
    (test : ∀ (v : Value) (I C D : Addr) (oI oC : Obj) (ys : List Value) (m₂ : PySem.Str → Option Value) (h : Heap) (tk : Nat), v ∈ vs → Fr h₀ L h m → News h₀ L h ((I, oI) :: (C, oC) :: (D, PyProof.Rows.LCg.lst ys) :: news) → PyProof.Rows.LCg.NsObj oC m₂ →
      m₂ x = some v →
      wpAny (model PySem.Challenge.pw_bk5003_01 w) A (isTrue tst (compEnvC scope cl C env) (eval tst (compEnvC scope cl C env))) (fun y s₅ => Put (∃ h' tk', s₅ = { s with heap := h', toks := tk' } ∧ Fr h₀ L h' m ∧ News h₀ L h' ((I, oI) :: (C, oC) :: (D, PyProof.Rows.LCg.lst ys) :: news) ∧ y = ok v)) (fun _ _ => False) { s with heap := h, toks := tk })
    (turn : ∀ (v : Value) (I C D : Addr) (oI oC : Obj) (ys : List Value) (m₂ : PySem.Str → Option Value) (h : Heap) (tk : Nat), v ∈ vs → ok v = true → Fr h₀ L h m → News h₀ L h ((I, oI) :: (C, oC) :: (D, PyProof.Rows.LCg.lst ys) :: news) → PyProof.Rows.LCg.NsObj oC m₂ →
      m₂ x = some v →
      wpAny (model PySem.Challenge.pw_bk5003_01 w) A (eval elt (compEnvC scope cl C env)) (fun y s₅ => Put (∃ h' tk', s₅ = { s with heap := h', toks := tk' } ∧ Fr h₀ L h' m ∧ News h₀ L h' ((I, oI) :: (C, oC) :: (D, PyProof.Rows.LCg.lst ys) :: news) ∧ RV v y)) (fun _ _ => False) { s with heap := h, toks := tk })
    (h : ∀ D ys h' tk, Fr h₀ L h' m → News h₀ L h' ((D, PyProof.Rows.LCg.lst ys) :: news) → (∀ p ∈ news, @Ne Nat p.1 D) → TL.Items2 RV (vs.filter ok) ys → Q (.ref D) { s with heap := h', toks := tk }) :
    wpAny (model PySem.Challenge.pw_bk5003_01 w) A (eval (.ListComp elt [⟨.Name x p4, .Name nm p5, [tst], 0⟩] scope p6) env) Q E s := by
  refine CM.expr (F₀ := F) (cl := cl) hclos hcell hkind hnames (hi _ ?_)
  refine ⟨_, _, _, _, (fun i ys nw => nw = news ∧ TL.Items2 RV ((vs.take i).filter ok) ys), It, ?_, F, N, ?_, ?_, ⟨rfl, .nil⟩, ?_, ?_⟩
  · rw [sizeLine_eq]; omega
  · intro b hb
    rw [List.mem_singleton.mp hb]
    exact ⟨Heap.lt_size (N _ hmem).1, .inr ⟨_, fun i ys nw hJ => by rw [hJ.1]; exact hmem⟩⟩
  · rintro i ys nw ⟨_, hy⟩
    have := hy.length
    have h2 := List.length_filter_le ok (vs.take i)
    rw [List.length_take] at h2
    omega
  · rintro i v ys nw I1 oI1 C oC D m₂ h2 tk2 hi' hv ⟨rfl, hys⟩ F2 N2 hC off ne
    refine CM.asg_name F2 N2 hC ne.1 (CM.offC ne off) hx hkind ?_
    intro h3 oC3 tk3 F3 N3 hC3
    refine wpAny_tests_one ?_
    refine wpAny_mono (test v I1 C D oI1 oC3 ys _ h3 tk3 (List.mem_of_getElem? hv) F3 N3 hC3 (if_pos rfl)) ?_ (fun _ _ h => h.elim)
    rintro y s₅ ⟨h5, tk5, rfl, F5, N5, rfl⟩
    cases hok : ok v with
    | false =>
      rw [if_neg Bool.false_ne_true]
      refine CM.End.mk' F5 N5 hC3 (fun _ h => h) off ⟨rfl, ?_⟩
      rw [List.take_add_one, hv, List.filter_append]
      show TL.Items2 RV (_ ++ List.filter ok [v]) ys
      rw [List.filter_cons_of_neg (by rw [hok]; exact Bool.false_ne_true)]
      simpa using hys
    | true =>
      rw [if_pos rfl]
      refine wpAny_mono (turn v I1 C D oI1 oC3 ys _ h5 tk5 (List.mem_of_getElem? hv) hok F5 N5 hC3 (if_pos rfl)) ?_ (fun _ _ h => h.elim)
      rintro y s₅ ⟨h5, tk5, rfl, F5, N5, hy5⟩
      refine CM.End.mk' F5 N5 hC3 (fun _ h => h) off ⟨rfl, ?_⟩
      rw [List.take_add_one, hv, List.filter_append]
      show TL.Items2 RV (_ ++ List.filter ok [v]) _
      rw [List.filter_cons_of_pos hok]
      exact hys.snoc hy5
  · rintro D ys nw h2 tk2 ⟨rfl, hys⟩ F2 N2 o1
    rw [List.take_length] at hys
    exact h D ys h2 tk2 F2 N2 (off1_mem o1) hys
theorem isi_tup {a : Addr} {xs : Array Value} {Q : Value → Shared → Prop} (h : IsTup s.heap a xs) (q : Q (.bool true) s) : wpAny (model PySem.Challenge.pw_bk5003_01 w) A (call (.builtin "isinstance") [.ref a, .type "tuple"]) Q E s := by
  obtain ⟨o, ho, hc, _⟩ := h
  exact call_isinstance_yes (Tx := "tuple") ⟨o, ho, hc⟩ (by kernel_rfl) isSubtype_tuple_tuple q
theorem isi_bytes {b : Array UInt8} {t : Tok} {Q : Value → Shared → Prop} (q : Q (.bool true) s) : wpAny (model PySem.Challenge.pw_bk5003_01 w) A (call (.builtin "isinstance") [.bytes b t, .type "bytes"]) Q E s :=
  call_isinstance_yes (Tx := "bytes") (typeIs_bytes _ b t) (by kernel_rfl) (by rw [isSubtype_type]; kernel_rfl) q
/-- two tables of pairs alike -/
theorem pairs_eq {n : Nat} {eqK ltK eqK' ltK' : Nat → Nat → Bool} {v v' : Value} {own own' : List (Addr × Obj)} (P : PairsOut n eqK ltK v own) (P' : PairsOut n eqK' ltK' v' own') (ho : ∀ p ∈ own, s.heap.get? p.1 = some p.2) (ho' : ∀ p ∈ own', s.heap.get? p.1 = some p.2)
    (hs : ∀ i j, i < n → j < n → eqK i j = eqK' i j ∧ ltK i j = ltK' i j) (hu : A.units + 3 < cLine) : PySem.SeqAt.RcAt A s v v' true := by
  obtain ⟨D, rs, nn, rfl, hD, hr, hrs⟩ := P
  obtain ⟨D', rs', nn', rfl, hD', hr', hrs'⟩ := P'
  refine TL.lists_eq ⟨_, ho _ hD, rfl, _, rfl⟩ ⟨_, ho' _ hD', rfl, _, rfl⟩ (by rw [List.length_map, List.length_map, hr, hr']) (by omega) ?_
  intro i u v h1 h2
  rw [List.getElem?_map] at h1 h2
  obtain ⟨r, hr1, rfl⟩ := Option.map_eq_some_iff.mp h1
  obtain ⟨r', hr1', rfl⟩ := Option.map_eq_some_iff.mp h2
  have hi : i < n := by rw [← hr]; exact (List.getElem?_eq_some_iff.mp hr1).1
  obtain ⟨ts, k, hm, hl, ht⟩ := hrs i r hr1
  obtain ⟨ts', k', hm', hl', ht'⟩ := hrs' i r' hr1'
  refine TL.refs_eq fun _ => TL.lists_eq ⟨_, ho _ hm, rfl, _, rfl⟩ ⟨_, ho' _ hm', rfl, _, rfl⟩ (by rw [List.length_map, List.length_map, hl, hl']) (by show A.units + 1 < _; omega) ?_
  intro j u v h1 h2
  rw [List.getElem?_map] at h1 h2
  obtain ⟨t, ht1, rfl⟩ := Option.map_eq_some_iff.mp h1
  obtain ⟨t', ht1', rfl⟩ := Option.map_eq_some_iff.mp h2
  have hj : j < n := by rw [← hl]; exact (List.getElem?_eq_some_iff.mp ht1).1
  obtain ⟨k1, m1⟩ := ht j t ht1
  obtain ⟨k2, m2⟩ := ht' j t' ht1'
  obtain ⟨e1, e2⟩ := hs i j hi hj
  refine TL.refs_eq fun _ => TL.tups_eq (xs := [.bool (ltK i j), .bool (eqK i j)]) (ys := [.bool (ltK' i j), .bool (eqK' i j)]) ⟨_, ho _ m1, rfl, _, rfl⟩ ⟨_, ho' _ m2, rfl, _, rfl⟩ rfl (by show A.units + 1 + 1 < _; omega) ?_
  intro q u v h1 h2
  rw [e1, e2] at h1
  rw [h1] at h2
  cases h2
  exact PySem.SeqAt.EqAt.same _
end
end
-- G1
section
namespace TL
theorem lex_tri {α : Type} [DecidableEq α] {lt : α → α → Bool} (h : ∀ a b : α, a = b ↔ (lt a b = false ∧ lt b a = false)) : ∀ a b : List α, a = b ↔ (lexB lt a b = false ∧ lexB lt b a = false)
  | [], [] => ⟨fun _ => ⟨rfl, rfl⟩, fun _ => rfl⟩
  | [], _ :: _ => ⟨fun e => (nomatch e), fun e => absurd (show true = false from e.1) (by decide)⟩
  | _ :: _, [] => ⟨fun e => (nomatch e), fun e => absurd (show true = false from e.2) (by decide)⟩
  | a :: r, b :: q => by
    show _ ↔ ((if a = b then lexB lt r q else lt a b) = false ∧ (if b = a then lexB lt q r else lt b a) = false)
    by_cases e : a = b
    · subst e
      rw [if_pos rfl, if_pos rfl, ← lex_tri h r q]
      exact ⟨fun e => by cases e; rfl, fun e => by rw [e]⟩
    · rw [if_neg e, if_neg (fun c => e c.symm), ← h a b]
      exact ⟨fun c => by cases c; rfl, fun c => absurd c e⟩
theorem ltI_tri (a b : Int) : a = b ↔ (ltI a b = false ∧ ltI b a = false) := by
  unfold ltI
  rw [decide_eq_false_iff_not, decide_eq_false_iff_not]
  omega
theorem lex_self {α : Type} [DecidableEq α] {lt : α → α → Bool} (a : List α) : lexB lt a a = false := by
  induction a with
  | nil => rfl
  | cons a r ih => show (if a = a then _ else _) = _; rw [if_pos rfl, ih]
theorem lex_app {α : Type} [DecidableEq α] {lt : α → α → Bool} (p a b : List α) : lexB lt (p ++ a) (p ++ b) = lexB lt a b := by
  induction p with
  | nil => rfl
  | cons c r ih => show (if c = c then _ else _) = _; rw [if_pos rfl]; exact ih
theorem two_lt {a b P x y : Nat} (hx : x < P) (hy : y < P) : (a * P + x < b * P + y ↔ a < b ∨ (a = b ∧ x < y)) := by
  rcases Nat.lt_trichotomy a b with h | h | h
  · have := Nat.mul_le_mul_right P (Nat.succ_le_of_lt h)
    rw [Nat.succ_mul] at this
    omega
  · subst h; omega
  · have := Nat.mul_le_mul_right P (Nat.succ_le_of_lt h)
    rw [Nat.succ_mul] at this
    omega
/-- octets as ints -/
def oc (bs : List UInt8) : List Int := bs.map fun c => (c.toNat : Int)
theorem fromB_acc (bs : List UInt8) : ∀ a : Nat, bs.foldl (fun a b => a * 256 + b.toNat) a = a * 256 ^ bs.length + BT.fromB bs := by
  induction bs with
  | nil => intro a; simp [BT.fromB]
  | cons b r ih =>
    intro a
    show r.foldl _ (a * 256 + b.toNat) = a * 256 ^ (r.length + 1) + r.foldl _ (0 * 256 + b.toNat)
    rw [ih, ih (0 * 256 + b.toNat), Nat.pow_succ, Nat.add_mul, Nat.mul_assoc, Nat.mul_comm 256, Nat.zero_mul, Nat.zero_add]
    omega
theorem fromB_cons (b : UInt8) (bs : List UInt8) : BT.fromB (b :: bs) = b.toNat * 256 ^ bs.length + BT.fromB bs := by
  show bs.foldl _ (0 * 256 + b.toNat) = _
  rw [fromB_acc, Nat.zero_mul, Nat.zero_add]
theorem lex_num : ∀ a b : List UInt8, a.length = b.length → lexB ltI (oc a) (oc b) = decide (BT.fromB a < BT.fromB b)
  | [], [], _ => by simp [oc, lexB]
  | x :: r, y :: q, h => by
    have h' : r.length = q.length := by simpa using h
    have ih := lex_num r q h'
    have l1 := BT.fromB_lt r
    have l2 := BT.fromB_lt q
    rw [← h'] at l2
    show (if (x.toNat : Int) = (y.toNat : Int) then lexB ltI (oc r) (oc q) else ltI (x.toNat : Int) (y.toNat : Int)) = _
    rw [ih, fromB_cons, fromB_cons, ← h']
    have e := two_lt (a := x.toNat) (b := y.toNat) l1 l2
    unfold ltI
    by_cases hxy : (x.toNat : Int) = (y.toNat : Int)
    · rw [if_pos hxy, decide_eq_decide, e]; omega
    · rw [if_neg hxy, decide_eq_decide, e]; omega
  | [], _ :: _, h => by cases h
  | _ :: _, [], h => by cases h
theorem oc_1 {c : Nat} (h : c < 128) : oc (PySem.Str.utf8Of c) = [(c : Int)] := utf8_1 h
theorem oc_2 {c : Nat} (h1 : 128 ≤ c) (h : c < 2048) : oc (PySem.Str.utf8Of c) = [192 + (c : Int) / 64, 128 + (c : Int) % 64] := by
  have := utf8_2 h1 h
  rwa [Int.fdiv_eq_ediv_of_nonneg _ (by decide), Int.fmod_eq_emod_of_nonneg _ (by decide)] at this
theorem oc_3 {c : Nat} (h1 : 2048 ≤ c) (h : c < 65536) : oc (PySem.Str.utf8Of c) = [224 + (c : Int) / 4096, 128 + (c : Int) / 64 % 64, 128 + (c : Int) % 64] := by
  have := utf8_3 h1 h
  simp only [Int.fdiv_eq_ediv_of_nonneg _ (show (0 : Int) ≤ 64 by decide), Int.fdiv_eq_ediv_of_nonneg _ (show (0 : Int) ≤ 4096 by decide), Int.fmod_eq_emod_of_nonneg _ (show (0 : Int) ≤ 64 by decide)] at this
  exact this
theorem oc_4 {c : Nat} (h1 : 65536 ≤ c) (h : c < 1114112) : oc (PySem.Str.utf8Of c) = [240 + (c : Int) / 262144, 128 + (c : Int) / 4096 % 64, 128 + (c : Int) / 64 % 64, 128 + (c : Int) % 64] := by
  have := utf8_4 h1 h
  simp only [Int.fdiv_eq_ediv_of_nonneg _ (show (0 : Int) ≤ 64 by decide), Int.fdiv_eq_ediv_of_nonneg _ (show (0 : Int) ≤ 4096 by decide), Int.fdiv_eq_ediv_of_nonneg _ (show (0 : Int) ≤ 262144 by decide), Int.fmod_eq_emod_of_nonneg _ (show (0 : Int) ≤ 64 by decide)] at this
  exact this
theorem oc_cases {c : Nat} (h1 : 1 ≤ c) (h : c < 1114112) : (c < 128 ∧ oc (PySem.Str.utf8Of c) = [(c : Int)]) ∨ (128 ≤ c ∧ c < 2048 ∧ oc (PySem.Str.utf8Of c) = [192 + (c : Int) / 64, 128 + (c : Int) % 64]) ∨
    (2048 ≤ c ∧ c < 65536 ∧ oc (PySem.Str.utf8Of c) = [224 + (c : Int) / 4096, 128 + (c : Int) / 64 % 64, 128 + (c : Int) % 64]) ∨ (65536 ≤ c ∧ oc (PySem.Str.utf8Of c) = [240 + (c : Int) / 262144, 128 + (c : Int) / 4096 % 64, 128 + (c : Int) / 64 % 64, 128 + (c : Int) % 64]) := by
  rcases Nat.lt_or_ge c 128 with a | a
  · exact .inl ⟨a, oc_1 a⟩
  rcases Nat.lt_or_ge c 2048 with b | b
  · exact .inr (.inl ⟨a, b, oc_2 a b⟩)
  rcases Nat.lt_or_ge c 65536 with d | d
  · exact .inr (.inr (.inl ⟨b, d, oc_3 b d⟩))
  · exact .inr (.inr (.inr ⟨d, oc_4 d h⟩))
theorem utf8_ne {x y : Nat} (hxy : x ≠ y) (hx : 1 ≤ x) (hx2 : x < 1114112) (hy : 1 ≤ y) (hy2 : y < 1114112) (A B : List Int) : lexB ltI (oc (PySem.Str.utf8Of x) ++ A) (oc (PySem.Str.utf8Of y) ++ B) = decide ((x : Int) < (y : Int)) := by
  rcases oc_cases hx hx2 with ⟨a, e⟩ | ⟨a, a', e⟩ | ⟨a, a', e⟩ | ⟨a, e⟩ <;> rcases oc_cases hy hy2 with ⟨b, f⟩ | ⟨b, b', f⟩ | ⟨b, b', f⟩ | ⟨b, f⟩ <;> rw [e, f] <;>
    simp only [List.cons_append, List.nil_append, lexB, ltI] <;> (repeat' split) <;> first | rfl | (rw [decide_eq_decide]; omega) | (exfalso; omega)
theorem utf8_head {c : Nat} (h1 : 1 ≤ c) (h : c < 1114112) : ∃ a r, oc (PySem.Str.utf8Of c) = a :: r ∧ 1 ≤ a := by
  rcases oc_cases h1 h with ⟨a, e⟩ | ⟨a, a', e⟩ | ⟨a, a', e⟩ | ⟨a, e⟩ <;> exact ⟨_, _, e, by omega⟩
theorem oc_app (a b : List UInt8) : oc (a ++ b) = oc a ++ oc b := List.map_append ..
theorem text_lex : ∀ (xs ys : List Nat) (z z' : Nat), (∀ c ∈ xs, 1 ≤ c ∧ c < 1114112) → (∀ c ∈ ys, 1 ≤ c ∧ c < 1114112) → (RE.utf8L xs).length + z = (RE.utf8L ys).length + z' →
    lexB ltI (oc (RE.utf8L xs ++ List.replicate z 0)) (oc (RE.utf8L ys ++ List.replicate z' 0)) = lexB ltI (xs.map fun (c : Nat) => (c : Int)) (ys.map fun (c : Nat) => (c : Int))
  | [], [], z, z', _, _, h => by
    have : z = z' := by simpa [RE.utf8L] using h
    subst this
    rw [lex_self]; rfl
  | [], y :: ys, z, z', _, hy, h => by
    obtain ⟨a, r, e, h1⟩ := utf8_head (hy y (.head _)).1 (hy y (.head _)).2
    have hu : RE.utf8L (y :: ys) = PySem.Str.utf8Of y ++ RE.utf8L ys := rfl
    have hl : 1 ≤ (PySem.Str.utf8Of y).length := by
      have := congrArg List.length e
      unfold oc at this
      rw [List.length_map] at this
      rw [this, List.length_cons]; omega
    rw [hu, List.length_append] at h
    have hz : 1 ≤ z := by
      have : (RE.utf8L []).length = 0 := rfl
      omega
    obtain ⟨z0, rfl⟩ : ∃ z0, z = z0 + 1 := ⟨z - 1, by omega⟩
    rw [hu, List.append_assoc, oc_app (PySem.Str.utf8Of y), e]
    show (if (0 : Int) = a then _ else ltI 0 a) = true
    rw [if_neg (by omega)]
    unfold ltI
    exact decide_eq_true (by omega)
  | x :: xs, [], z, z', hx, _, h => by
    obtain ⟨a, r, e, h1⟩ := utf8_head (hx x (.head _)).1 (hx x (.head _)).2
    have hu : RE.utf8L (x :: xs) = PySem.Str.utf8Of x ++ RE.utf8L xs := rfl
    have hl : 1 ≤ (PySem.Str.utf8Of x).length := by
      have := congrArg List.length e
      unfold oc at this
      rw [List.length_map] at this
      rw [this, List.length_cons]; omega
    rw [hu, List.length_append] at h
    have hz : 1 ≤ z' := by
      have : (RE.utf8L []).length = 0 := rfl
      omega
    obtain ⟨z0, rfl⟩ : ∃ z0, z' = z0 + 1 := ⟨z' - 1, by omega⟩
    rw [hu, List.append_assoc, oc_app (PySem.Str.utf8Of x), e]
    show (if a = (0 : Int) then _ else ltI a 0) = false
    rw [if_neg (by omega)]
    unfold ltI
    exact decide_eq_false (by omega)
  | x :: xs, y :: ys, z, z', hx, hy, h => by
    have hu : RE.utf8L (x :: xs) = PySem.Str.utf8Of x ++ RE.utf8L xs := rfl
    have hv : RE.utf8L (y :: ys) = PySem.Str.utf8Of y ++ RE.utf8L ys := rfl
    rw [hu, hv, List.append_assoc, List.append_assoc, oc_app, oc_app (PySem.Str.utf8Of y)]
    show _ = (if (x : Int) = (y : Int) then lexB ltI (xs.map fun (c : Nat) => (c : Int)) (ys.map fun (c : Nat) => (c : Int)) else ltI (x : Int) (y : Int))
    by_cases e : x = y
    · subst e
      rw [if_pos rfl, lex_app]
      refine text_lex xs ys z z' (fun c hc => hx c (.tail _ hc)) (fun c hc => hy c (.tail _ hc)) ?_
      rw [hu, hv, List.length_append, List.length_append] at h
      omega
    · rw [if_neg (by omega), utf8_ne e (hx x (.head _)).1 (hx x (.head _)).2 (hy y (.head _)).1 (hy y (.head _)).2]
      rfl
end TL
theorem val_lex {k : Kd} {W N N' : Nat} {v v' : Value} (hW : 1 ≤ W) (hn : N < 2 ^ W) (hn' : N' < 2 ^ W) (V : Val k W N v) (V' : Val k W N' v') (T : TextOk v) (T' : TextOk v') : TL.lexB TL.ltI (rankV v) (rankV v') = decide (N < N') := by
  cases k with
  | u =>
    obtain ⟨t, rfl⟩ := V
    obtain ⟨t', rfl⟩ := V'
    show TL.lexB TL.ltI [if (N : Int) ≥ 0 then 0 else 1, (N : Int)] [if (N' : Int) ≥ 0 then 0 else 1, (N' : Int)] = _
    rw [if_pos (by omega), if_pos (by omega)]
    show (if (0 : Int) = 0 then (if (N : Int) = (N' : Int) then false else TL.ltI _ _) else _) = _
    rw [if_pos rfl]
    unfold TL.ltI
    split
    · exact (decide_eq_false (by omega)).symm
    · rw [decide_eq_decide]; omega
  | s =>
    obtain ⟨t, rfl⟩ := V
    obtain ⟨t', rfl⟩ := V'
    have hp : (2 : Int) ^ W = 2 * ((2 ^ (W - 1) : Nat) : Int) := by
      obtain ⟨w, rfl⟩ : ∃ w, W = w + 1 := ⟨W - 1, by omega⟩
      rw [Nat.add_sub_cancel, Int.pow_succ, Int.mul_comm, Int.natCast_pow]; rfl
    have hp2 : 2 ^ W = 2 * 2 ^ (W - 1) := by
      obtain ⟨w, rfl⟩ : ∃ w, W = w + 1 := ⟨W - 1, by omega⟩
      rw [Nat.add_sub_cancel, Nat.pow_succ, Nat.mul_comm]
    have h0 := Nat.two_pow_pos (W - 1)
    show TL.lexB TL.ltI [if toS W N ≥ 0 then 0 else 1, toS W N] [if toS W N' ≥ 0 then 0 else 1, toS W N'] = _
    unfold toS
    rw [hp]
    rw [hp2] at hn hn'
    generalize 2 ^ (W - 1) = P at *
    unfold TL.lexB TL.lexB TL.lexB TL.ltI
    (repeat' split) <;> first | (rw [decide_eq_decide]; omega) | (symm; exact decide_eq_false (by omega)) | (exfalso; omega) | omega
  | b =>
    obtain ⟨rfl, h1⟩ := V
    obtain ⟨rfl, h2⟩ := V'
    rcases (show N = 0 ∨ N = 1 by omega) with rfl | rfl <;> rcases (show N' = 0 ∨ N' = 1 by omega) with rfl | rfl <;> decide
  | r =>
    obtain ⟨t, rfl⟩ := V
    obtain ⟨t', rfl⟩ := V'
    show TL.lexB TL.ltI (TL.oc _) (TL.oc _) = _
    have hlt : ∀ M, M < 2 ^ W → M * 2 ^ (8 * ((W + 7) / 8) - W) < 256 ^ ((W + 7) / 8) := by
      intro M hM
      rw [BT.pow_256, show 8 * ((W + 7) / 8) = W + (8 * ((W + 7) / 8) - W) by omega, Nat.pow_add, show W + (8 * ((W + 7) / 8) - W) - W = 8 * ((W + 7) / 8) - W by omega]
      exact Nat.mul_lt_mul_of_pos_right hM (Nat.two_pow_pos _)
    rw [TL.lex_num _ _ (by rw [BT.toB_length, BT.toB_length]), BT.from_toB, BT.from_toB, Nat.mod_eq_of_lt (hlt N hn), Nat.mod_eq_of_lt (hlt N' hn'), decide_eq_decide]
    exact Nat.mul_lt_mul_right (Nat.two_pow_pos _)
  | t =>
    obtain ⟨x, t, rfl, -, h8, hl, hN⟩ := V
    obtain ⟨y, t', rfl, -, -, hl', hN'⟩ := V'
    have key : ∀ (U : List UInt8) (M : Nat), 8 * U.length ≤ W → M = BT.fromB U * 2 ^ (W - 8 * U.length) → M = BT.fromB (U ++ List.replicate (W / 8 - U.length) 0) := by
      intro U M h1 h2
      rw [fromB_z0, h2, BT.pow_256]
      congr 2
      omega
    rw [key _ _ hl hN, key _ _ hl' hN', ← TL.lex_num _ _ (by rw [List.length_append, List.length_append, List.length_replicate, List.length_replicate]; omega)]
    exact (TL.text_lex _ _ _ _ T.2 T'.2 (by omega)).symm
  | p => exact V.elim
  | q => exact V.elim
theorem Vals.inv {it : Item} {its : List Item} {Ns : List Nat} {vs : List Value} (V : Vals (it :: its) Ns vs) : ∃ N Ns', Ns = N :: Ns' ∧ N < 2 ^ it.W ∧
    ((it.k.pad = true ∧ N = padN it.k it.W ∧ Vals its Ns' vs) ∨ (it.k.pad = false ∧ ∃ v vs', vs = v :: vs' ∧ Val it.k it.W N v ∧ Vals its Ns' vs')) := by
  obtain ⟨h1, h2, h3⟩ := V
  cases Ns with
  | nil => cases h1
  | cons N Ns =>
    obtain ⟨a, b, c, d⟩ := h3 0 it N rfl rfl
    have hl : its.length = Ns.length := by simpa using h1
    refine ⟨N, Ns, rfl, a, ?_⟩
    have hc : ∀ j, cnt (it :: its) (j + 1) = cnt its j + if it.k.pad = true then 0 else 1 := by
      intro j
      unfold cnt
      rw [List.take_succ_cons]
      cases hp : it.k.pad
      · rw [List.filter_cons_of_pos (by rw [hp]; rfl), List.length_cons]; rfl
      · rw [List.filter_cons_of_neg (by rw [hp]; decide)]; rfl
    have hcl := hc its.length
    rw [← List.length_cons (a := it)] at hcl
    cases hp : it.k.pad with
    | true =>
      rw [hp, if_pos rfl] at hcl
      refine .inl ⟨rfl, ?_, hl, by rw [h2, hcl]; rfl, fun j it' N' e1 e2 => ?_⟩
      · cases hk : it.k <;> rw [hk] at hp <;> first | (cases hp; done) | exact b hk | exact c hk
      · obtain ⟨a', b', c', d'⟩ := h3 (j + 1) it' N' e1 e2
        refine ⟨a', b', c', fun hh => ?_⟩
        obtain ⟨v, hv, hv2⟩ := d' hh
        rw [hc, hp, if_pos rfl] at hv
        exact ⟨v, hv, hv2⟩
    | false =>
      rw [hp, if_neg Bool.false_ne_true] at hcl
      obtain ⟨v, hv, hv2⟩ := d hp
      cases vs with
      | nil => cases hv
      | cons v0 vs =>
        have : v0 = v := Option.some.inj (show (v0 :: vs)[0]? = some v from hv)
        subst this
        refine .inr ⟨rfl, v0, vs, rfl, hv2, hl, by rw [hcl] at h2; simpa using h2, fun j it' N' e1 e2 => ?_⟩
        obtain ⟨a', b', c', d'⟩ := h3 (j + 1) it' N' e1 e2
        refine ⟨a', b', c', fun hh => ?_⟩
        obtain ⟨v, hv, hv2⟩ := d' hh
        rw [hc, hp, if_neg Bool.false_ne_true] at hv
        exact ⟨v, hv, hv2⟩
theorem catN_ac : ∀ (its : List Item) (Ns : List Nat) (M : Nat), its.length = Ns.length → catN its Ns M = M * 2 ^ totW its + catN its Ns 0
  | [], [], M, _ => by simp [catN, totW]
  | it :: r, N :: Ns, M, h => by
    show catN r Ns (M * 2 ^ it.W + N) = _ + catN r Ns (0 * 2 ^ it.W + N)
    have h' : r.length = Ns.length := by simpa using h
    have e : totW (it :: r) = it.W + totW r := by simp [totW]
    rw [catN_ac r Ns _ h', catN_ac r Ns (0 * 2 ^ it.W + N) h', e, Nat.pow_add, Nat.zero_mul, Nat.zero_add, Nat.add_mul, Nat.mul_assoc, Nat.add_assoc]
  | [], _ :: _, _, h => by cases h
  | _ :: _, [], _, h => by cases h
theorem catN_bd : ∀ (its : List Item) (Ns : List Nat), its.length = Ns.length → (∀ (j : Nat) (it : Item) (N : Nat), its[j]? = some it → Ns[j]? = some N → N < 2 ^ it.W) → catN its Ns 0 < 2 ^ totW its
  | [], [], _, _ => by simp [catN, totW]
  | it :: r, N :: Ns, h, hj => by
    show catN r Ns (0 * 2 ^ it.W + N) < _
    have h' : r.length = Ns.length := by simpa using h
    have e : totW (it :: r) = it.W + totW r := by simp [totW]
    have h0 := hj 0 it N rfl rfl
    have ih := catN_bd r Ns h' fun j a b p q => hj (j + 1) a b p q
    have := Nat.mul_le_mul_right (2 ^ totW r) (Nat.succ_le_of_lt h0)
    rw [Nat.succ_mul] at this
    rw [catN_ac r Ns _ h', e, Nat.pow_add, Nat.zero_mul, Nat.zero_add]
    omega
  | [], _ :: _, h, _ => by cases h
  | _ :: _, [], h, _ => by cases h
theorem rec_lex : ∀ (its : List Item) (Ns Ns' : List Nat) (vs vs' : List Value), (∀ it ∈ its, 1 ≤ it.W) → Vals its Ns vs → Vals its Ns' vs' → (∀ v ∈ vs, TextOk v) → (∀ v ∈ vs', TextOk v) → TL.lexB (TL.lexB TL.ltI) (vs.map rankV) (vs'.map rankV) = decide (catN its Ns 0 < catN its Ns' 0)
  | [], Ns, Ns', vs, vs', _, V, V', _, _ => by
    obtain ⟨h1, h2, _⟩ := V
    obtain ⟨h1', h2', _⟩ := V'
    obtain rfl := List.length_eq_zero_iff.mp h1.symm
    obtain rfl := List.length_eq_zero_iff.mp h1'.symm
    obtain rfl := List.length_eq_zero_iff.mp h2
    obtain rfl := List.length_eq_zero_iff.mp h2'
    rfl
  | it :: its, Ns, Ns', vs, vs', hw, V, V', T, T' => by
    obtain ⟨N, Ns, rfl, hn, hV⟩ := V.inv
    obtain ⟨N', Ns', rfl, hn', hV'⟩ := V'.inv
    have hw' : ∀ it ∈ its, 1 ≤ it.W := fun i hi => hw i (.tail _ hi)
    have key : ∀ (vs : List Value) (Ns : List Nat), Vals its Ns vs → its.length = Ns.length ∧ catN its Ns 0 < 2 ^ totW its := fun vs Ns W => ⟨W.1, catN_bd its Ns W.1 fun j a b p q => (W.2.2 j a b p q).1⟩
    rcases hV with ⟨hp, e, W⟩ | ⟨hp, v, vs, rfl, hv, W⟩ <;> rcases hV' with ⟨hp', e', W'⟩ | ⟨hp', v', vs', rfl, hv', W'⟩
    · have ih := rec_lex its Ns Ns' vs vs' hw' W W' T T'
      obtain ⟨l1, l2⟩ := key _ _ W
      obtain ⟨l1', l2'⟩ := key _ _ W'
      show _ = decide (catN its Ns (0 * 2 ^ it.W + N) < catN its Ns' (0 * 2 ^ it.W + N'))
      rw [ih, catN_ac its Ns (0 * 2 ^ it.W + N) l1, catN_ac its Ns' (0 * 2 ^ it.W + N') l1', e, e', decide_eq_decide]
      omega
    · rw [hp] at hp'; cases hp'
    · rw [hp] at hp'; cases hp'
    · have ih := rec_lex its Ns Ns' vs vs' hw' W W' (fun v h => T v (.tail _ h)) (fun v h => T' v (.tail _ h))
      obtain ⟨l1, l2⟩ := key _ _ W
      obtain ⟨l1', l2'⟩ := key _ _ W'
      have hh := val_lex (hw it (.head _)) hn hn' hv hv' (T v (.head _)) (T' v' (.head _))
      have hh' := val_lex (hw it (.head _)) hn' hn hv' hv (T' v' (.head _)) (T v (.head _))
      have heq : rankV v = rankV v' ↔ N = N' := by
        rw [TL.lex_tri TL.ltI_tri, hh, hh', decide_eq_false_iff_not, decide_eq_false_iff_not]
        omega
      show (if rankV v = rankV v' then TL.lexB (TL.lexB TL.ltI) (vs.map rankV) (vs'.map rankV) else TL.lexB TL.ltI (rankV v) (rankV v')) = decide (catN its Ns (0 * 2 ^ it.W + N) < catN its Ns' (0 * 2 ^ it.W + N'))
      rw [ih, hh, catN_ac its Ns (0 * 2 ^ it.W + N) l1, catN_ac its Ns' (0 * 2 ^ it.W + N') l1', Nat.zero_mul, Nat.zero_add, Nat.zero_add]
      have e := TL.two_lt (a := N) (b := N') l2 l2'
      by_cases c : N = N'
      · rw [if_pos (heq.mpr c), decide_eq_decide, e]; omega
      · rw [if_neg (fun h => c (heq.mp h)), decide_eq_decide, e]; omega
/-- a record and its number: what the law's two tables hold -/
def RecPair (its : List Item) (pd : Nat) (R : List (List Int)) (S : Int) : Prop :=
  ∃ Ns vs, Vals its Ns vs ∧ (∀ v ∈ vs, TextOk v) ∧ R = vs.map rankV ∧ S = ((catN its Ns 0 * 2 ^ pd : Nat) : Int)
theorem rec_pair {its : List Item} {pd : Nat} {R R' : List (List Int)} {S S' : Int} (hw : ∀ it ∈ its, 1 ≤ it.W) (h : RecPair its pd R S) (h' : RecPair its pd R' S') : decide (R = R') = decide (S = S') ∧ TL.lexB (TL.lexB TL.ltI) R R' = decide (S < S') := by
  obtain ⟨Ns, vs, V, T, rfl, rfl⟩ := h
  obtain ⟨Ns', vs', V', T', rfl, rfl⟩ := h'
  have e1 := rec_lex its Ns Ns' vs vs' hw V V' T T'
  have e2 := rec_lex its Ns' Ns vs' vs hw V' V T' T
  have m1 : ∀ a b : Nat, (((a * 2 ^ pd : Nat) : Int) < ((b * 2 ^ pd : Nat) : Int)) ↔ a < b := by
    intro a b
    rw [Int.ofNat_lt]
    exact Nat.mul_lt_mul_right (Nat.two_pow_pos _)
  refine ⟨?_, by rw [e1, decide_eq_decide]; exact (m1 _ _).symm⟩
  rw [decide_eq_decide, TL.lex_tri (TL.lex_tri TL.ltI_tri), e1, e2, decide_eq_false_iff_not, decide_eq_false_iff_not]
  have a1 := m1 (catN its Ns 0) (catN its Ns' 0)
  have a2 := m1 (catN its Ns' 0) (catN its Ns 0)
  omega
end
-- I8
section
/-- the law's names that stay -/
def LawNm (bare whole fmt : PySem.Str) (e rm tot : Int) (K Z O1 Rk Sz Ot Rw : Addr) (m : PySem.Str → Option Value) : Prop :=
  (∃ t, m (PySem.Str.ofString "bare") = some (.str bare t)) ∧ (∃ t, m (PySem.Str.ofString "whole") = some (.str whole t)) ∧ (∃ t, m (PySem.Str.ofString "fmt") = some (.str fmt t)) ∧
  (∃ t, m (PySem.Str.ofString "rest") = some (.int e t)) ∧ (∃ t, m (PySem.Str.ofString "room") = some (.int rm t)) ∧ (∃ t, m (PySem.Str.ofString "total") = some (.int tot t)) ∧
  MR m (PySem.Str.ofString "kinds") K ∧ MR m (PySem.Str.ofString "sized") Z ∧ MR m (PySem.Str.ofString "groups") O1 ∧
  MR m (PySem.Str.ofString "ranks") Rk ∧ MR m (PySem.Str.ofString "sizes") Sz ∧ MR m (PySem.Str.ofString "others") Ot ∧ MR m (PySem.Str.ofString "rows") Rw
theorem LawNm.upd {bare whole fmt : PySem.Str} {e rm tot : Int} {K Z O1 Rk Sz Ot Rw : Addr} {m : PySem.Str → Option Value} (h : LawNm bare whole fmt e rm tot K Z O1 Rk Sz Ot Rw m) {y : PySem.Str} {v : Option Value}
    (hy : ∀ z ∈ [PySem.Str.ofString "bare", PySem.Str.ofString "whole", PySem.Str.ofString "fmt", PySem.Str.ofString "rest", PySem.Str.ofString "room", PySem.Str.ofString "total", PySem.Str.ofString "kinds", PySem.Str.ofString "sized", PySem.Str.ofString "groups", PySem.Str.ofString "ranks", PySem.Str.ofString "sizes", PySem.Str.ofString "others", PySem.Str.ofString "rows"], z ≠ y) :
    LawNm bare whole fmt e rm tot K Z O1 Rk Sz Ot Rw (fun z => if z = y then v else m z) := by
  have g : ∀ z, z ≠ y → (fun z => if z = y then v else m z) z = m z := fun z hz => if_neg hz
  unfold LawNm MR at h ⊢
  rw [g _ (hy _ (by simp)), g _ (hy _ (by simp)), g _ (hy _ (by simp)), g _ (hy _ (by simp)), g _ (hy _ (by simp)), g _ (hy _ (by simp)), g _ (hy _ (by simp)), g _ (hy _ (by simp)), g _ (hy _ (by simp)), g _ (hy _ (by simp)), g _ (hy _ (by simp)), g _ (hy _ (by simp)), g _ (hy _ (by simp))]
  exact h
theorem LawNm.n_y {bare whole fmt : PySem.Str} {e rm tot : Int} {K Z O1 Rk Sz Ot Rw : Addr} {m : PySem.Str → Option Value} {v : Option Value} (h : LawNm bare whole fmt e rm tot K Z O1 Rk Sz Ot Rw m) : LawNm bare whole fmt e rm tot K Z O1 Rk Sz Ot Rw (fun z => if z = PySem.Str.ofString "y" then v else m z) := h.upd (by decide +kernel)
theorem LawNm.n_values {bare whole fmt : PySem.Str} {e rm tot : Int} {K Z O1 Rk Sz Ot Rw : Addr} {m : PySem.Str → Option Value} {v : Option Value} (h : LawNm bare whole fmt e rm tot K Z O1 Rk Sz Ot Rw m) : LawNm bare whole fmt e rm tot K Z O1 Rk Sz Ot Rw (fun z => if z = PySem.Str.ofString "values" then v else m z) := h.upd (by decide +kernel)
theorem LawNm.n_octets {bare whole fmt : PySem.Str} {e rm tot : Int} {K Z O1 Rk Sz Ot Rw : Addr} {m : PySem.Str → Option Value} {v : Option Value} (h : LawNm bare whole fmt e rm tot K Z O1 Rk Sz Ot Rw m) : LawNm bare whole fmt e rm tot K Z O1 Rk Sz Ot Rw (fun z => if z = PySem.Str.ofString "octets" then v else m z) := h.upd (by decide +kernel)
theorem LawNm.n_plain {bare whole fmt : PySem.Str} {e rm tot : Int} {K Z O1 Rk Sz Ot Rw : Addr} {m : PySem.Str → Option Value} {v : Option Value} (h : LawNm bare whole fmt e rm tot K Z O1 Rk Sz Ot Rw m) : LawNm bare whole fmt e rm tot K Z O1 Rk Sz Ot Rw (fun z => if z = PySem.Str.ofString "plain" then v else m z) := h.upd (by decide +kernel)
theorem LawNm.n_told {bare whole fmt : PySem.Str} {e rm tot : Int} {K Z O1 Rk Sz Ot Rw : Addr} {m : PySem.Str → Option Value} {v : Option Value} (h : LawNm bare whole fmt e rm tot K Z O1 Rk Sz Ot Rw m) : LawNm bare whole fmt e rm tot K Z O1 Rk Sz Ot Rw (fun z => if z = PySem.Str.ofString "told" then v else m z) := h.upd (by decide +kernel)
theorem LawNm.n_row {bare whole fmt : PySem.Str} {e rm tot : Int} {K Z O1 Rk Sz Ot Rw : Addr} {m : PySem.Str → Option Value} {v : Option Value} (h : LawNm bare whole fmt e rm tot K Z O1 Rk Sz Ot Rw m) : LawNm bare whole fmt e rm tot K Z O1 Rk Sz Ot Rw (fun z => if z = PySem.Str.ofString "row" then v else m z) := h.upd (by decide +kernel)
theorem off5 {a b c d e : Addr × Obj} {own2 own : List (Addr × Obj)} (h : PySem.W.OwnOff own2 [a.1, b.1, c.1, d.1, e.1]) (h' : PySem.W.OwnOff own ((a :: b :: c :: d :: e :: own2).map (·.1))) : PySem.W.OwnOff (own2 ++ own) [a.1, b.1, c.1, d.1, e.1] := by
  intro p hp x hx
  rcases List.mem_append.mp hp with hp | hp
  · exact h p hp x hx
  · refine h' p hp x ?_
    simp only [List.mem_cons, List.not_mem_nil, or_false] at hx
    simp only [List.map_cons, List.mem_cons]
    rcases hx with h | h | h | h | h <;> simp [h]
theorem split_row : ∀ (its : List Item) (M : Nat), M < 2 ^ totW its → ∃ Ns : List Nat, its.length = Ns.length ∧ (∀ (j : Nat) (it : Item) (N : Nat), its[j]? = some it → Ns[j]? = some N → N < 2 ^ it.W) ∧ catN its Ns 0 = M
  | [], M, h => ⟨[], rfl, fun j it N a => (by cases a), by
      have : M < 1 := h
      show (0 : Nat) = M
      omega⟩
  | it :: r, M, h => by
    have e : totW (it :: r) = it.W + totW r := by simp [totW]
    rw [e, Nat.pow_add] at h
    obtain ⟨Ns, h1, h2, h3⟩ := split_row r (M % 2 ^ totW r) (Nat.mod_lt _ (Nat.two_pow_pos _))
    refine ⟨M / 2 ^ totW r :: Ns, by rw [List.length_cons, List.length_cons, h1], ?_, ?_⟩
    · intro j it' N a b
      cases j with
      | zero =>
        cases a; cases b
        exact Nat.div_lt_of_lt_mul (by rw [Nat.mul_comm]; exact h)
      | succ j => exact h2 j it' N a b
    · show catN r Ns (0 * 2 ^ it.W + M / 2 ^ totW r) = M
      rw [catN_ac _ _ _ h1, h3, Nat.zero_mul, Nat.zero_add, Nat.mul_comm]
      exact Nat.div_add_mod M _
/-- what unpack tells, row by row -/
inductive URow : List Item → List Nat → List Value → Prop
  | nil : URow [] [] []
  | cons {it : Item} {its : List Item} {N : Nat} {Ns : List Nat} {u : Value} {us : List Value} : N < 2 ^ it.W → UVal it.k it.W N u → URow its Ns us → URow (it :: its) (N :: Ns) (u :: us)
theorem URow.of : ∀ {its : List Item} {Ns : List Nat} {us : List Value}, its.length = Ns.length → us.length = its.length → (∀ (j : Nat) (it : Item) (N : Nat), its[j]? = some it → Ns[j]? = some N → N < 2 ^ it.W) → (∀ (j : Nat) (it : Item) (N : Nat) (u : Value), its[j]? = some it → Ns[j]? = some N → us[j]? = some u → UVal it.k it.W N u) → URow its Ns us
  | [], [], [], _, _, _, _ => .nil
  | it :: its, N :: Ns, u :: us, h1, h2, hb, h => .cons (hb 0 it N rfl rfl) (h 0 it N u rfl rfl rfl) (URow.of (by simpa using h1) (by simpa using h2) (fun j a b p q => hb (j + 1) a b p q) fun j a b c p q r => h (j + 1) a b c p q r)
  | [], _ :: _, _, h, _, _, _ => by cases h
  | _ :: _, [], _, h, _, _, _ => by cases h
  | [], [], _ :: _, _, h, _, _ => by cases h
  | _ :: _, _ :: _, [], _, h, _, _ => by cases h
theorem URow.len {its : List Item} {Ns : List Nat} {us : List Value} (h : URow its Ns us) : us.length = its.length := by
  induction h with
  | nil => rfl
  | cons _ _ _ ih => rw [List.length_cons, List.length_cons, ih]
theorem URow.snoc {its : List Item} {Ns : List Nat} {us : List Value} (h : URow its Ns us) {it : Item} {N : Nat} {u : Value} (hn : N < 2 ^ it.W) (hu : UVal it.k it.W N u) : URow (its ++ [it]) (Ns ++ [N]) (us ++ [u]) := by
  induction h with
  | nil => exact .cons hn hu .nil
  | cons a b _ ih => exact .cons a b ih
theorem u_same {k : Kd} {W N : Nat} {u v : Value} (h : UVal k W N u) (h' : UVal k W N v) : TL.Same u v := by
  cases k with
  | u => obtain ⟨t, rfl⟩ := h; obtain ⟨t', rfl⟩ := h'; exact .int _ _ _
  | s => obtain ⟨t, rfl⟩ := h; obtain ⟨t', rfl⟩ := h'; exact .int _ _ _
  | b => obtain rfl := h; obtain rfl := h'; exact .bool _
  | r => obtain ⟨t, rfl⟩ := h; obtain ⟨t', rfl⟩ := h'; exact .bytes _ _ _
  | t => exact h.elim
  | p => exact h.elim
  | q => exact h.elim
theorem TL.Same.kind {u v : Value} (h : TL.Same u v) : kindS u = kindS v := by cases h <;> rfl
theorem URow.same {its : List Item} {Ns : List Nat} {us vs : List Value} (h : URow its Ns us) (h' : URow its Ns vs) : ∀ (j : Nat) (u v : Value), us[j]? = some u → vs[j]? = some v → TL.Same u v := by
  induction h generalizing vs with
  | nil => intro j u v e; cases e
  | cons a b _ ih =>
    cases h' with
    | cons a' b' h' =>
      intro j u v e1 e2
      cases j with
      | zero => cases e1; cases e2; exact u_same b b'
      | succ j => exact ih h' j u v e1 e2
theorem u_plain {k : Kd} {W N : Nat} {u : Value} (h : UVal k W N u) : Plainv u ∧ TextOk u := by
  cases k with
  | u => obtain ⟨t, rfl⟩ := h; exact ⟨trivial, trivial⟩
  | s => obtain ⟨t, rfl⟩ := h; exact ⟨trivial, trivial⟩
  | b => obtain rfl := h; exact ⟨trivial, trivial⟩
  | r => obtain ⟨t, rfl⟩ := h; exact ⟨trivial, trivial⟩
  | t => exact h.elim
  | p => exact h.elim
  | q => exact h.elim
theorem URow.plain {its : List Item} {Ns : List Nat} {us : List Value} (h : URow its Ns us) : ∀ v ∈ us, Plainv v ∧ TextOk v := by
  induction h with
  | nil => intro v hv; cases hv
  | cons a b _ ih =>
    intro v hv
    rcases List.mem_cons.mp hv with rfl | hv
    · exact u_plain b
    · exact ih v hv
theorem u_kind {k : Kd} {W N : Nat} {u : Value} (h : UVal k W N u) : kindS u = kindT k := by
  cases k with
  | u => obtain ⟨t, rfl⟩ := h; rfl
  | s => obtain ⟨t, rfl⟩ := h; rfl
  | b => obtain rfl := h; rfl
  | r => obtain ⟨t, rfl⟩ := h; rfl
  | t => exact h.elim
  | p => exact h.elim
  | q => exact h.elim
theorem URow.kinds {its : List Item} {Ns : List Nat} {us : List Value} (h : URow its Ns us) : us.map kindS = its.map fun it => kindT it.k := by
  induction h with
  | nil => rfl
  | cons a b _ ih => rw [List.map_cons, List.map_cons, u_kind b, ih]
def isB : Value → Bool
  | .bytes _ _ => true
  | _ => false
def lenB : Value → Int
  | .bytes b _ => ((b.size : Nat) : Int)
  | _ => 0
theorem u_bytes {k : Kd} {W N : Nat} {u : Value} (h : UVal k W N u) : isB u = k.rB ∧ (k.rB = true → lenB u = (((W + 7) / 8 : Nat) : Int)) := by
  cases k with
  | u => obtain ⟨t, rfl⟩ := h; exact ⟨rfl, fun e => nomatch e⟩
  | s => obtain ⟨t, rfl⟩ := h; exact ⟨rfl, fun e => nomatch e⟩
  | b => obtain rfl := h; exact ⟨rfl, fun e => nomatch e⟩
  | r => obtain ⟨t, rfl⟩ := h; exact ⟨rfl, fun _ => by show (((BT.toB _ _).toArray.size : Nat) : Int) = _; rw [List.size_toArray, BT.toB_length]⟩
  | t => exact h.elim
  | p => exact h.elim
  | q => exact h.elim
theorem URow.lens {its : List Item} {Ns : List Nat} {us : List Value} (h : URow its Ns us) : (us.filter isB).map lenB = (its.filter fun it => it.k.rB).map fun it => (((it.W + 7) / 8 : Nat) : Int) := by
  induction h with
  | nil => rfl
  | @cons it its N Ns u us a b _ ih =>
    obtain ⟨e1, e2⟩ := u_bytes b
    cases hr : it.k.rB with
    | true =>
      rw [List.filter_cons_of_pos (by rw [e1, hr]), List.filter_cons_of_pos (by exact hr), List.map_cons, List.map_cons, ih, e2 hr]
    | false =>
      rw [List.filter_cons_of_neg (by rw [e1, hr]; exact Bool.false_ne_true), List.filter_cons_of_neg (by show ¬ (it.k.rB = true); rw [hr]; exact Bool.false_ne_true), ih]
theorem URow.vals {its : List Item} {Ns : List Nat} {us : List Value} (h : URow its Ns us) (hb : ∀ it ∈ its, it.k = .b → it.W = 1) : Vals its Ns us := by
  induction h with
  | nil => exact Vals.nil
  | @cons it its N Ns u us a b _ ih =>
    have ih' := ih fun i hi => hb i (.tail _ hi)
    have h1 := hb it (.head _)
    obtain ⟨k, W⟩ := it
    cases k with
    | u => exact Vals.cons ih' a rfl b
    | s => exact Vals.cons ih' a rfl b
    | r => exact Vals.cons ih' a rfl b
    | b =>
      have hW : W = 1 := h1 rfl
      subst hW
      have hN : N < 2 := a
      refine Vals.cons ih' a rfl (v := u) ⟨?_, by omega⟩
      have hu : u = .bool (N != 0) := b
      rw [hu]
      rcases (show N = 0 ∨ N = 1 by omega) with rfl | rfl <;> rfl
    | t => exact b.elim
    | p => exact b.elim
    | q => exact b.elim
theorem vals_mem : ∀ {its : List Item} {Ns : List Nat} {vs : List Value}, Vals its Ns vs → ∀ v ∈ vs, ∃ it ∈ its, ∃ N, N < 2 ^ it.W ∧ Val it.k it.W N v
  | [], Ns, vs, V, v, hv => by
    obtain ⟨_, h2, _⟩ := V
    obtain rfl := List.length_eq_zero_iff.mp h2
    cases hv
  | it :: its, Ns, vs, V, v, hv => by
    obtain ⟨N, Ns, rfl, hn, ⟨_, _, W⟩ | ⟨_, v0, vs, rfl, h0, W⟩⟩ := V.inv
    · obtain ⟨i, hi, r⟩ := vals_mem W v hv
      exact ⟨i, .tail _ hi, r⟩
    · rcases List.mem_cons.mp hv with rfl | hv
      · exact ⟨it, .head _, N, hn, h0⟩
      · obtain ⟨i, hi, r⟩ := vals_mem W v hv
        exact ⟨i, .tail _ hi, r⟩
theorem rank_len {k : Kd} {W N : Nat} {v : Value} (V : Val k W N v) (T : TextOk v) (hW : W ≤ 100) : (rankV v).length ≤ 1000 := by
  cases k with
  | u => obtain ⟨t, rfl⟩ := V; show (List.length [_, _]) ≤ _; simp
  | s => obtain ⟨t, rfl⟩ := V; show (List.length [_, _]) ≤ _; simp
  | b => obtain ⟨rfl, _⟩ := V; show (List.length [_]) ≤ _; simp
  | r =>
    obtain ⟨t, rfl⟩ := V
    show (List.map _ (BT.toB _ _)).length ≤ _
    rw [List.length_map, BT.toB_length]; omega
  | t =>
    obtain ⟨x, t, rfl, _⟩ := V
    show (List.map _ x.cps.toList).length ≤ _
    have := T.1
    rw [List.length_map, Array.length_toList]; omega
  | p => exact V.elim
  | q => exact V.elim
theorem vals_rank {its : List Item} {Ns : List Nat} {vs : List Value} (V : Vals its Ns vs) (T : ∀ v ∈ vs, Plainv v ∧ TextOk v) (hW : ∀ it ∈ its, it.W ≤ 100) : ∀ v ∈ vs, (rankV v).length ≤ 1000 := fun v hv =>
  let ⟨it, hi, _, _, h⟩ := vals_mem V v hv
  rank_len h (T v hv).2 (hW it hi)
theorem vals_len {its : List Item} {Ns : List Nat} {vs : List Value} (V : Vals its Ns vs) : vs.length ≤ its.length := by
  rw [V.2.1]
  unfold cnt
  rw [List.take_length]
  exact List.length_filter_le _ _
/-- a rank among what has been made -/
theorem RankOut.mono {vs : List Value} {v : Value} {own own' : List (Addr × Obj)} (x : RankOut vs v own) (h : ∀ p ∈ own, p ∈ own') : RankOut vs v own' := by
  obtain ⟨T, rs, nn, a, b, c, d⟩ := x
  exact ⟨T, rs, nn, a, h _ b, c, fun j r x p q => (d j r x p q).mono h⟩
theorem TL.Items2.of {α : Type} {R : α → Value → Prop} : ∀ {xs : List α} {vs : List Value}, xs.length = vs.length → (∀ (j : Nat) (x : α) (v : Value), xs[j]? = some x → vs[j]? = some v → R x v) → TL.Items2 R xs vs
  | [], [], _, _ => .nil
  | x :: xs, v :: vs, h, k => .cons (k 0 x v rfl rfl) (TL.Items2.of (by simpa using h) fun j a b p q => k (j + 1) a b p q)
  | [], _ :: _, h, _ => by cases h
  | _ :: _, [], h, _ => by cases h
theorem ints_items {vs : List Value} {ns : List Int} (h : IntsAre vs ns) : TL.Items2 TL.IntOf ns vs := by
  induction h with
  | nil => exact .nil
  | cons i t _ ih => exact .cons ⟨t, rfl⟩ ih
theorem RankOut.is {vs : List Value} {v : Value} {own : List (Addr × Obj)} (x : RankOut vs v own) {h : Heap} (ho : ∀ p ∈ own, h.get? p.1 = some p.2) : TL.RankOf h (vs.map rankV) v := by
  obtain ⟨T, rs, nn, rfl, b, c, d⟩ := x
  refine ⟨T, _, rfl, ⟨_, ho _ b, rfl, _, rfl⟩, ?_⟩
  refine TL.Items2.of (by rw [List.length_map, List.length_map, c]) fun j R v h1 h2 => ?_
  rw [List.getElem?_map] at h1
  change (rs.map Value.ref)[j]? = some v at h2
  rw [List.getElem?_map] at h2
  obtain ⟨x, hx, rfl⟩ := Option.map_eq_some_iff.mp h1
  obtain ⟨r, hr, rfl⟩ := Option.map_eq_some_iff.mp h2
  obtain ⟨us, k, hm, hi⟩ := d j r x hr hx
  exact ⟨r, _, rfl, ⟨_, ho _ hm, rfl, _, rfl⟩, ints_items hi⟩
/-- the ranks so far, and the numbers beside them -/
def TabIn (its : List Item) (pd : Nat) (own : List (Addr × Obj)) (rks : List Addr) (ss : List Int) : Prop :=
  rks.length = ss.length ∧ ∀ (i : Nat) (r : Addr) (S : Int), rks[i]? = some r → ss[i]? = some S → ∃ vs, RankOut vs (.ref r) own ∧ RecPair its pd (vs.map rankV) S
theorem TabIn.mono {its : List Item} {pd : Nat} {own own' : List (Addr × Obj)} {rks : List Addr} {ss : List Int} (x : TabIn its pd own rks ss) (h : ∀ p ∈ own, p ∈ own') : TabIn its pd own' rks ss :=
  ⟨x.1, fun i r S a b => let ⟨vs, p, q⟩ := x.2 i r S a b; ⟨vs, p.mono h, q⟩⟩
theorem TabIn.nil {its : List Item} {pd : Nat} {own : List (Addr × Obj)} : TabIn its pd own [] [] := ⟨rfl, fun i r S h => by cases h⟩
theorem TabIn.snoc {its : List Item} {pd : Nat} {own : List (Addr × Obj)} {rks : List Addr} {ss : List Int} (x : TabIn its pd own rks ss) {r : Addr} {S : Int} {vs : List Value} (h1 : RankOut vs (.ref r) own) (h2 : RecPair its pd (vs.map rankV) S) : TabIn its pd own (rks ++ [r]) (ss ++ [S]) := by
  refine ⟨by rw [List.length_append, List.length_append, x.1]; rfl, fun i r' S' a b => ?_⟩
  rcases Nat.lt_or_ge i rks.length with hlt | hge
  · rw [List.getElem?_append_left hlt] at a
    rw [List.getElem?_append_left (by rw [← x.1]; exact hlt)] at b
    exact x.2 i r' S' a b
  · rw [List.getElem?_append_right hge] at a
    rw [List.getElem?_append_right (by rw [← x.1]; exact hge), ← x.1] at b
    have h0 : i - rks.length = 0 := by
      rcases Nat.eq_zero_or_pos (i - rks.length) with h | h
      · exact h
      · rw [List.getElem?_eq_none (by simp only [List.length_cons, List.length_nil]; omega)] at a; cases a
    rw [h0] at a b
    cases a; cases b
    exact ⟨vs, h1, h2⟩
def eqF (ss : List Int) (i j : Nat) : Bool := decide (ss.getD i 0 = ss.getD j 0)
def ltF (ss : List Int) (i j : Nat) : Bool := decide (ss.getD i 0 < ss.getD j 0)
theorem TabIn.HK {its : List Item} {pd : Nat} {own : List (Addr × Obj)} {rks : List Addr} {ss : List Int} (x : TabIn its pd own rks ss) (hw : ∀ it ∈ its, 1 ≤ it.W) {h : Heap} (ho : ∀ p ∈ own, h.get? p.1 = some p.2) :
    ∀ (A' : Around) (s' : Shared) (i j : Nat) (u v : Value), Ext h s'.heap → A'.units + 2 < cLine → (rks.map Value.ref)[i]? = some u → (rks.map Value.ref)[j]? = some v → PySem.SeqAt.RcAt A' s' u v (eqF ss i j) ∧ TL.LtAt A' s' u v (ltF ss i j) := by
  intro A' s' i j u v e hu h1 h2
  rw [List.getElem?_map] at h1 h2
  obtain ⟨r, hr, rfl⟩ := Option.map_eq_some_iff.mp h1
  obtain ⟨q, hq, rfl⟩ := Option.map_eq_some_iff.mp h2
  have li : i < ss.length := by rw [← x.1]; exact (List.getElem?_eq_some_iff.mp hr).1
  have lj : j < ss.length := by rw [← x.1]; exact (List.getElem?_eq_some_iff.mp hq).1
  obtain ⟨vs, a, b⟩ := x.2 i r _ hr (List.getElem?_eq_getElem li)
  obtain ⟨vs', a', b'⟩ := x.2 j q _ hq (List.getElem?_eq_getElem lj)
  obtain ⟨e1, e2⟩ := rec_pair hw b b'
  have k : ∀ p ∈ own, s'.heap.get? p.1 = some p.2 := fun p hp => e _ _ (ho p hp)
  have g1 := TL.rank_rc hu (a.is k) (a'.is k)
  have g2 := TL.rank_lt hu (a.is k) (a'.is k)
  rw [e1] at g1
  rw [e2] at g2
  unfold eqF ltF
  rw [List.getD_eq_getElem?_getD, List.getD_eq_getElem?_getD, List.getElem?_eq_getElem li, List.getElem?_eq_getElem lj]
  exact ⟨g1, g2⟩
theorem ints_HK {vs : List Value} {ss : List Int} (x : IntsAre vs ss) : ∀ (A' : Around) (s' : Shared) (i j : Nat) (u v : Value), vs[i]? = some u → vs[j]? = some v → PySem.SeqAt.RcAt A' s' u v (eqF ss i j) ∧ TL.LtAt A' s' u v (ltF ss i j) := by
  intro A' s' i j u v h1 h2
  obtain ⟨n, t, hn, rfl⟩ := ints_get x h1
  obtain ⟨n', t', hn', rfl⟩ := ints_get x h2
  have e1 : ss.getD i 0 = n := by rw [List.getD_eq_getElem?_getD, hn]; rfl
  have e2 : ss.getD j 0 = n' := by rw [List.getD_eq_getElem?_getD, hn']; rfl
  unfold eqF ltF
  rw [e1, e2]
  exact ⟨TL.rc_int _ _ _ _ _ _ ⟨_, rfl⟩ ⟨_, rfl⟩, TL.lt_int _ _ _ _ _ _ ⟨_, rfl⟩ ⟨_, rfl⟩⟩
/-- the row that the law reads back -/
theorem bare_row {its : List Item} {Ns : List Nat} {e : Nat} (hl : its.length = Ns.length) (hN : ∀ (j : Nat) (it : Item) (N : Nat), its[j]? = some it → Ns[j]? = some N → N < 2 ^ it.W) (he : (-((totW its : Nat) : Int)).fmod 8 = (e : Int)) (h3 : its.length ≤ 3) (h80 : ∀ it ∈ its, it.W ≤ 80) :
    Row (padU (its.map bareIt)) (if 0 < e then Ns ++ [0] else Ns) (BT.toB ((totW its + 7) / 8) (catN its Ns 0 * 2 ^ (8 * ((totW its + 7) / 8) - totW its))) := by
  obtain ⟨e0, e8, e1⟩ := lfmod8 (totW its)
  rw [he] at e0 e8 e1
  rw [Int.toNat_natCast] at e1
  have ee : 8 * ((totW its + 7) / 8) - totW its = e := by omega
  have hpad := padU_f (its := its.map bareIt) (f := e) (by rw [bare_tot]; exact he)
  have hcat : ∀ (its : List Item) (Ns : List Nat) (M : Nat), catN (its.map bareIt) Ns M = catN its Ns M := by
    intro its
    induction its with
    | nil => intro Ns M; rfl
    | cons a r ih => intro Ns M; cases Ns with
      | nil => rfl
      | cons N Ns => exact ih Ns _
  have hlt := catN_bd its Ns hl hN
  have hT80 : ∀ l : List Item, (∀ it ∈ l, it.W ≤ 80) → totW l ≤ 80 * l.length := by
    intro l
    induction l with
    | nil => intro _; exact Nat.le_refl _
    | cons a r ih =>
      intro h
      have h1 := h a (.head _)
      have h2 := ih fun i hi => h i (.tail _ hi)
      have e : totW (a :: r) = a.W + totW r := by simp [totW]
      rw [e, List.length_cons]; omega
  have ht := hT80 its h80
  have hbk : ∀ it ∈ its.map bareIt, it.k = .u ∨ it.k = .s ∨ it.k = .b ∨ it.k = .r := by
    intro it hit
    obtain ⟨i, hi, rfl⟩ := List.mem_map.mp hit
    show bareKd i.k = _ ∨ _
    cases hk : i.k <;> simp [bareKd, bareIt, hk]
  have hbN : ∀ (j : Nat) (it : Item) (N : Nat), (its.map bareIt)[j]? = some it → Ns[j]? = some N → N < 2 ^ it.W := by
    intro j it N a b
    rw [List.getElem?_map] at a
    obtain ⟨i, hi, rfl⟩ := Option.map_eq_some_iff.mp a
    exact hN j i N hi b
  have hM : catN its Ns 0 * 2 ^ e < 256 ^ ((totW its + 7) / 8) := by
    rw [BT.pow_256, show 8 * ((totW its + 7) / 8) = totW its + e by omega, Nat.pow_add]
    exact Nat.mul_lt_mul_of_pos_right hlt (Nat.two_pow_pos _)
  rw [ee, hpad]
  by_cases h0 : 0 < e
  · rw [if_pos h0, if_pos h0]
    refine ⟨?_, ?_, ?_, ?_, ?_, ?_, ?_⟩
    · intro it hit
      rcases List.mem_append.mp hit with hit | hit
      · exact hbk it hit
      · rw [List.mem_singleton.mp hit]; exact .inl rfl
    · rw [List.length_append, List.length_append, List.length_map, hl]; rfl
    · intro j it N a b
      rcases Nat.lt_or_ge j Ns.length with hlt | hge
      · rw [List.getElem?_append_left hlt] at b
        rw [List.getElem?_append_left (by rw [List.length_map, hl]; exact hlt)] at a
        exact hbN j it N a b
      · rw [List.getElem?_append_right hge] at b
        have h0 : j - Ns.length = 0 := by
          rcases Nat.eq_zero_or_pos (j - Ns.length) with h | h
          · exact h
          · rw [List.getElem?_eq_none (by simp only [List.length_cons, List.length_nil]; omega)] at b; cases b
        rw [h0] at b
        cases b
        exact Nat.two_pow_pos _
    · rw [totW_app, bare_tot, BT.toB_length]
      show totW its + totW [(⟨.u, e⟩ : Item)] = _
      have : totW [(⟨.u, e⟩ : Item)] = e := by simp [totW]
      omega
    · rw [BT.from_toB, Nat.mod_eq_of_lt hM, catN_app _ _ _ _ _ (by rw [List.length_map, hl]), hcat]
      show _ = catN its Ns 0 * 2 ^ e + 0
      rfl
    · rw [BT.toB_length]; omega
    · rw [List.length_append, List.length_map]; show its.length + 1 ≤ 100; omega
  · rw [if_neg h0, if_neg h0]
    have h00 : e = 0 := by omega
    refine ⟨hbk, by rw [List.length_map, hl], hbN, ?_, ?_, ?_, ?_⟩
    · rw [bare_tot, BT.toB_length]; omega
    · rw [BT.from_toB, Nat.mod_eq_of_lt hM, hcat, h00, Nat.pow_zero, Nat.mul_one]
    · rw [BT.toB_length]; omega
    · rw [List.length_map]; omega
theorem totW_le : ∀ l : List Item, (∀ it ∈ l, it.W ≤ 80) → totW l ≤ 80 * l.length
  | [], _ => Nat.le_refl _
  | a :: r, h => by
    have h1 := h a (.head _)
    have h2 := totW_le r fun i hi => h i (.tail _ hi)
    have e : totW (a :: r) = a.W + totW r := by simp [totW]
    rw [e, List.length_cons]; omega
theorem totW_ge {l : List Item} (h0 : 1 ≤ l.length) (h : ∀ it ∈ l, 1 ≤ it.W) : 1 ≤ totW l := by
  cases l with
  | nil => cases h0
  | cons a r =>
    have h1 := h a (.head _)
    have e : totW (a :: r) = a.W + totW r := by simp [totW]
    omega
theorem spaced_len : ∀ ws : List (Item × Bool), (spaced ws).length = ws.length := fun ws => by
  have := congrArg List.length (spaced_it ws)
  rwa [List.length_map, List.length_map] at this
theorem fmt_facts {ws : List (Item × Bool)} {its : List Item} (hi : ws.map (·.1) = its) (hw : 1 ≤ ws.length ∧ ws.length ≤ 3) (hok : ∀ p ∈ ws, ItOk p.1 ∧ p.1.W ≤ 80) :
    RS.tx (fmtL (spaced ws)) = RS.tx (fmtL (spaced ws) ++ if false = true then [62] else []) ∧ spaced ws ≠ [] ∧ (SR.txs ((spaced ws).map Fm.tk)).length ≤ 500 ∧ (∀ f ∈ spaced ws, 1 ≤ f.it.W ∧ f.it.W ≤ 100) ∧ its = (spaced ws).map (·.it) ∧ totW its ≤ 300 ∧ 1 ≤ totW its := by
  have hsp := spaced_it ws
  rw [hi] at hsp
  have hit : ∀ it ∈ its, 1 ≤ it.W ∧ it.W ≤ 80 := by
    intro it h
    rw [← hi] at h
    obtain ⟨p, hp, rfl⟩ := List.mem_map.mp h
    exact ⟨(hok p hp).1.1, (hok p hp).2⟩
  have hf : ∀ f ∈ spaced ws, 1 ≤ f.it.W ∧ f.it.W ≤ 80 := fun f h => hit _ (by rw [← hsp]; exact List.mem_map.mpr ⟨f, h, rfl⟩)
  have hl : its.length = ws.length := by rw [← hi, List.length_map]
  have h1 := fmtL_len (spaced ws) fun f h => by have := hf f h; omega
  have h2 := totW_le its fun it h => (hit it h).2
  rw [spaced_len] at h1
  refine ⟨by rw [if_neg Bool.false_ne_true, List.append_nil], ?_, by omega, fun f h => by have := hf f h; omega, hsp.symm, by omega, totW_ge (by omega) fun it h => (hit it h).1⟩
  intro h
  have := spaced_len ws
  rw [h] at this
  have h0 : (0 : Nat) = ws.length := this
  omega
theorem fm_facts {its : List Item} (b : Bool) (h1 : 1 ≤ its.length ∧ its.length ≤ 4) (hok : ∀ it ∈ its, 1 ≤ it.W ∧ it.W ≤ 80) :
    (its.map fun it => (⟨it, b, false⟩ : Fm)) ≠ [] ∧ (SR.txs ((its.map fun it => (⟨it, b, false⟩ : Fm)).map Fm.tk)).length ≤ 500 ∧ (∀ f ∈ (its.map fun it => (⟨it, b, false⟩ : Fm)), 1 ≤ f.it.W ∧ f.it.W ≤ 100) ∧ its = (its.map fun it => (⟨it, b, false⟩ : Fm)).map (·.it) := by
  have hf : ∀ f ∈ (its.map fun it => (⟨it, b, false⟩ : Fm)), 1 ≤ f.it.W ∧ f.it.W ≤ 80 := by
    intro f h
    obtain ⟨it, hi, rfl⟩ := List.mem_map.mp h
    exact hok it hi
  have h2 := fmtL_len (its.map fun it => (⟨it, b, false⟩ : Fm)) fun f h => by have := hf f h; omega
  rw [List.length_map] at h2
  refine ⟨?_, by omega, fun f h => by have := hf f h; omega, ?_⟩
  · intro h
    have := congrArg List.length h
    rw [List.length_map, List.length_nil] at this
    omega
  · rw [List.map_map]
    exact (List.map_id _).symm
theorem padU_facts {its : List Item} {e : Nat} (he : (-((totW its : Nat) : Int)).fmod 8 = (e : Int)) (h1 : 1 ≤ its.length ∧ its.length ≤ 3) (hok : ∀ it ∈ its, 1 ≤ it.W ∧ it.W ≤ 80) : (1 ≤ (padU its).length ∧ (padU its).length ≤ 4) ∧ ∀ it ∈ padU its, 1 ≤ it.W ∧ it.W ≤ 80 := by
  obtain ⟨a, b, c⟩ := lfmod8 (totW its)
  rw [he] at a b
  rw [padU_f he]
  split
  · refine ⟨by rw [List.length_append]; show 1 ≤ its.length + 1 ∧ its.length + 1 ≤ 4; omega, fun it h => ?_⟩
    rcases List.mem_append.mp h with h | h
    · exact hok it h
    · rw [List.mem_singleton.mp h]
      show 1 ≤ e ∧ e ≤ 80
      omega
  · exact ⟨by omega, hok⟩
theorem bare_facts {its : List Item} (h : ∀ it ∈ its, ItOk it ∧ it.W ≤ 80) : ∀ it ∈ its.map bareIt, 1 ≤ it.W ∧ it.W ≤ 80 := by
  intro it hit
  obtain ⟨i, hi, rfl⟩ := List.mem_map.mp hit
  exact ⟨(h i hi).1.1, (h i hi).2⟩
theorem News.sink5 {h₀ h : Heap} {L : Addr} {q a b c d e : Addr × Obj} {r : List (Addr × Obj)} (N : News h₀ L h (q :: a :: b :: c :: d :: e :: r)) : News h₀ L h (a :: b :: c :: d :: e :: q :: r) := by
  intro p hp
  refine N p ?_
  simp only [List.mem_cons] at hp ⊢
  rcases hp with h | h | h | h | h | h | h <;> simp [h]
theorem off5n {a b c d e q : Addr × Obj} {own2 own : List (Addr × Obj)} (h : PySem.W.OwnOff own [a.1, b.1, c.1, d.1, e.1]) (l : PySem.W.AllLt q.1 (a :: b :: c :: d :: e :: own2)) : PySem.W.OwnOff (q :: own) [a.1, b.1, c.1, d.1, e.1] := by
  refine ownOff_cons (T := q.1) (o := q.2) h fun x hx => ?_
  have m := allLt_mem _ l
  simp only [List.mem_cons, List.not_mem_nil, or_false] at hx
  rcases hx with rfl | rfl | rfl | rfl | rfl
  · exact Nat.ne_of_gt (m a (by simp))
  · exact Nat.ne_of_gt (m b (by simp))
  · exact Nat.ne_of_gt (m c (by simp))
  · exact Nat.ne_of_gt (m d (by simp))
  · exact Nat.ne_of_gt (m e (by simp))
theorem plain_row {its : List Item} {Ns : List Nat} {vs ps : List Value} (V : Vals its Ns vs) (hl : ps.length = its.length) (hps : ∀ (j : Nat) (it : Item) (N : Nat) (p : Value), its[j]? = some it → Ns[j]? = some N → ps[j]? = some p → UVal (bareKd it.k) it.W N p) : URow (its.map bareIt) Ns ps := by
  refine URow.of (by rw [List.length_map, V.1]) (by rw [List.length_map, hl]) ?_ ?_
  · intro j it N a b
    rw [List.getElem?_map] at a
    obtain ⟨i, hi, rfl⟩ := Option.map_eq_some_iff.mp a
    exact (V.2.2 j i N hi b).1
  · intro j it N u a b c
    rw [List.getElem?_map] at a
    obtain ⟨i, hi, rfl⟩ := Option.map_eq_some_iff.mp a
    exact hps j i N u hi b c
theorem out_row {its : List Item} {Ns : List Nat} {bs : List UInt8} {us : List Value} (R : Row its Ns bs) (hl : us.length = its.length) (h : ∀ (j : Nat) (it : Item) (N : Nat) (u : Value), its[j]? = some it → Ns[j]? = some N → us[j]? = some u → UVal it.k it.W N u) : URow its Ns us := URow.of R.hl hl R.hN h
theorem strs_same {a b : List Value} {l l' : List PySem.Str} (h : StrsAre a l) (h' : StrsAre b l') (e : l = l') : a.length = b.length ∧ ∀ (j : Nat) (u v : Value), a[j]? = some u → b[j]? = some v → TL.Same u v := by
  subst e
  induction h generalizing b with
  | nil => cases h'; exact ⟨rfl, fun j u v e => by cases e⟩
  | cons x t _ ih =>
    cases h' with
    | cons _ t' h' =>
      obtain ⟨e1, e2⟩ := ih h'
      refine ⟨by rw [List.length_cons, List.length_cons, e1], fun j u v a b => ?_⟩
      cases j with
      | zero => cases a; cases b; exact .str _ _ _
      | succ j => exact e2 j u v a b
theorem ints_same {a b : List Value} {l l' : List Int} (h : IntsAre a l) (h' : IntsAre b l') (e : l = l') : a.length = b.length ∧ ∀ (j : Nat) (u v : Value), a[j]? = some u → b[j]? = some v → TL.Same u v := by
  subst e
  induction h generalizing b with
  | nil => cases h'; exact ⟨rfl, fun j u v e => by cases e⟩
  | cons x t _ ih =>
    cases h' with
    | cons _ t' h' =>
      obtain ⟨e1, e2⟩ := ih h'
      refine ⟨by rw [List.length_cons, List.length_cons, e1], fun j u v a b => ?_⟩
      cases j with
      | zero => cases a; cases b; exact .int _ _ _
      | succ j => exact e2 j u v a b
theorem URow.kinds2 {its : List Item} {Ns : List Nat} {us vs : List Value} (h : URow its Ns us) (h' : URow its Ns vs) : us.map kindS = vs.map kindS := by rw [h.kinds, h'.kinds]
theorem fmod_256 (y : Int) (r : Nat) : ∃ M : Nat, y.fmod ((256 : Int) ^ ((r : Int)).toNat) = (M : Int) ∧ M < 256 ^ r := by
  rw [Int.toNat_natCast]
  have hp : (0 : Int) < (256 : Int) ^ r := Int.pow_pos (by decide)
  have h1 := Int.fmod_nonneg_of_pos y hp
  have h2 := Int.fmod_lt_of_pos y hp
  obtain ⟨N, hN⟩ := Int.eq_ofNat_of_zero_le h1
  refine ⟨N, hN, ?_⟩
  have e : ((256 ^ r : Nat) : Int) = (256 : Int) ^ r := by rw [Int.natCast_pow]; rfl
  rw [hN, ← e] at h2
  exact Int.ofNat_lt.mp h2
theorem whole_row {pts : List Item} {M rm : Nat} (hk : ∀ it ∈ pts, it.k = .u ∨ it.k = .s ∨ it.k = .b ∨ it.k = .r) (h8 : totW pts = 8 * rm) (hl : pts.length ≤ 4) (h40 : rm ≤ 40) (hM : M < 256 ^ rm) : ∃ Mz, Row pts Mz (BT.toB rm M) ∧ catN pts Mz 0 = M := by
  have hM2 : M < 2 ^ totW pts := by rw [h8, ← BT.pow_256]; exact hM
  obtain ⟨Mz, a, b, c⟩ := split_row pts M hM2
  exact ⟨Mz, ⟨hk, a, b, by rw [BT.toB_length]; exact h8, by rw [BT.from_toB, Nat.mod_eq_of_lt hM, c], by rw [BT.toB_length]; exact h40, by omega⟩, c⟩
theorem whole_back {pts : List Item} {Mz : List Nat} {M rm : Nat} (h8 : totW pts = 8 * rm) (hc : catN pts Mz 0 = M) : BT.toB ((totW pts + 7) / 8) (catN pts Mz 0 * 2 ^ (8 * ((totW pts + 7) / 8) - totW pts)) = BT.toB rm M := by
  have e1 : (totW pts + 7) / 8 = rm := by omega
  have e2 : 8 * rm - totW pts = 0 := by omega
  rw [e1, e2, Nat.pow_zero, Nat.mul_one, hc]
theorem rec_num {its : List Item} {Ns : List Nat} {vs : List Value} (V : Vals its Ns vs) : BT.fromB (BT.toB ((totW its + 7) / 8) (catN its Ns 0 * 2 ^ (8 * ((totW its + 7) / 8) - totW its))) = catN its Ns 0 * 2 ^ (8 * ((totW its + 7) / 8) - totW its) := by
  have h := catN_bd its Ns V.1 fun j it N a b => (V.2.2 j it N a b).1
  rw [BT.from_toB, Nat.mod_eq_of_lt]
  rw [BT.pow_256, show 2 ^ (8 * ((totW its + 7) / 8)) = 2 ^ totW its * 2 ^ (8 * ((totW its + 7) / 8) - totW its) by rw [← Nat.pow_add]; congr 1; omega]
  exact Nat.mul_lt_mul_of_pos_right h (Nat.two_pow_pos _)
theorem URow.small {its : List Item} {Ns : List Nat} {us : List Value} (h : URow its Ns us) (hW : ∀ it ∈ its, it.W ≤ 100) : ∀ v ∈ us, lenB v ≤ 100 := by
  induction h with
  | nil => intro v hv; cases hv
  | @cons it its N Ns u us a b _ ih =>
    intro v hv
    rcases List.mem_cons.mp hv with rfl | hv
    · have h1 := hW it (.head _)
      obtain ⟨k, W⟩ := it
      cases k with
      | r => have := (u_bytes b).2 rfl; rw [this]; show (((W + 7) / 8 : Nat) : Int) ≤ 100; have : W ≤ 100 := h1; omega
      | u => obtain ⟨t, rfl⟩ := b; show (0 : Int) ≤ 100; decide
      | s => obtain ⟨t, rfl⟩ := b; show (0 : Int) ≤ 100; decide
      | b => obtain rfl := b; show (0 : Int) ≤ 100; decide
      | t => exact b.elim
      | p => exact b.elim
      | q => exact b.elim
    · exact ih (fun i hi => hW i (.tail _ hi)) v hv
end
-- I9
section
variable {w : World} {A : Around} {s : Shared}
theorem pack_spec2 (B : Bas w s.heap) (H : Room A 17) {T : PySem.Str} (fs : List Fm) (eb : Bool) (hTx : T = RS.tx (fmtL fs ++ if eb = true then [62] else [])) (t : Tok) (hne : fs ≠ []) (hsz : (SR.txs (fs.map Fm.tk)).length ≤ 500) (hW : ∀ f ∈ fs, 1 ≤ f.it.W ∧ f.it.W ≤ 100) (its : List Item) (hits : its = fs.map (·.it)) (Ns : List Nat) (vs : List Value) (V : Vals its Ns vs) (hT : totW its ≤ 300) (hT1 : 1 ≤ totW its) (hL : its.length ≤ 100) (h4 : vs.length ≤ 4) :
    codeAny (model PySem.Challenge.pw_bk5003_01 w) A (.call (.ref 516) ⟨.str T t :: vs, []⟩) (Ret s fun v _ => ∃ t, v = .bytes (BT.toB ((totW its + 7) / 8) (catN its Ns 0 * 2 ^ (8 * ((totW its + 7) / 8) - totW its))).toArray t) s := by
  subst hTx
  exact pack_spec B H fs eb t hne hsz hW its hits Ns vs V hT hT1 hL h4
theorem unpack_spec2 (B : Bas w s.heap) (H : Room A 20) {T : PySem.Str} (fs : List Fm) (eb : Bool) (hTx : T = RS.tx (fmtL fs ++ if eb = true then [62] else [])) (t u : Tok) (hne : fs ≠ []) (hsz : (SR.txs (fs.map Fm.tk)).length ≤ 500) (hW : ∀ f ∈ fs, 1 ≤ f.it.W ∧ f.it.W ≤ 100) (its : List Item) (hits : its = fs.map (·.it)) (Ns : List Nat) (bs : List UInt8) (Rw : Row its Ns bs) :
    codeAny (model PySem.Challenge.pw_bk5003_01 w) A (.call (.ref 524) ⟨[.str T t, .bytes bs.toArray u], []⟩) (RetG s (UOut its Ns)) s := by
  subst hTx
  exact unpack_spec B H fs eb t u hne hsz hW its hits Ns bs Rw
end
-- F25
section
variable {w : World} {A : Around} {s : Shared}
section
local macro_rules | `(tactic| walk_at "call builtin:isinstance") => `(tactic| k_dflt (((with_reducible show wpAny _ _ (call (Value.builtin "isinstance") [_, Value.type "bytes"] _) _ _ _); first | with_reducible refine IsiPair.int_bytes ?_ | with_reducible refine IsiPair.str_bytes ?_ | with_reducible refine IsiPair.bool_bytes ?_ | with_reducible refine isi_bytes ?_)))
local macro_rules | `(tactic| walk_at "binaryOp Add str str") => `(tactic| k_dflt ((k_here; (with_reducible show wpAny _ _ (binaryOp Operator.Add (Value.str _ _) (Value.str _ _)) _ _ _); (refine' KXadd.add ?kxaa ?kxab ?kxac ?_; (case kxaa => kt_len); (case kxab => kt_len); (case kxac => exact Nat.le_of_ble_eq_true rfl)); intro _ _ _)))
local macro_rules | `(tactic| walk_at "mine go") => `(tactic| repeat' ((fail_if_success (with_reducible show Ret _ _ _ _)); first | (k_unfold; (try dsimp only)) | ((fail_if_success (first | (with_reducible show Put _) | (with_reducible show wpAny _ _ (inplaceOp _ (Value.str _ _) _) _ _ _) | (with_reducible show wpAny _ _ (binaryOp _ (Value.str (RS.tx (fmtL _)) _) _) _ _ _) | (with_reducible show wpAny _ _ (call (Value.ref _) _ _) _ _ _) | (with_reducible show wpAny _ _ (call (Value.builtin "isinstance") [Value.ref _, _] _) _ _ _) | (with_reducible show wpAny _ _ (compareOp _ (Value.ref _) (Value.ref _)) _ _ _))); (fail_if_success (with_reducible show wpAny _ _ (exec (Stmt.Raise _ _ _) _) _ _ _)); (fail_if_success (with_reducible show wpAny _ _ (exec (Stmt.For _ _ _ _ _) _) _ _ _)); (fail_if_success (with_reducible show wpAny _ _ (exec (Stmt.While _ _ _ _) _) _ _ _)); (fail_if_success (with_reducible show wpAny _ _ (eval (Expr.ListComp _ _ _ _) _) _ _ _)); (fail_if_success (with_reducible show wpAny _ _ (exec (Stmt.Assign _ (Expr.ListComp _ _ _ _) _) _) _ _ _)); (first | walk1 | (dsimp only; walk1))) | fail "stop"))
set_option maxHeartbeats 20000000 in
theorem law_spec (B : Bas w s.heap) (H : Room A 30) (sl : Addr) (zs : List Value) (xs : List Int) (hl : s.heap.IsList sl zs.toArray) (hz : IntsAre zs xs) (hlen : xs.length ≤ 63) :
    codeAny (model PySem.Challenge.pw_bk5003_01 w) A (.call (.ref 559) ⟨[.ref sl], []⟩) (RetG s fun v _ => v = .bool true) s := by
  obtain ⟨X, p, loose, mean, mg, mb, T⟩ := B
  (k_dflt (refine' enter (binds := [(PySem.Str.ofString "script", .ref sl)]) ?k1 ?k2 ?k6 ?k7 ?k8 ?k9 ?kB ?_ ?c2 ?c3 ?c4 ?c5; (case k1 => k_asm); (case k2 => exact Top.nolimit (by assumption)); (case k6 => k_is); (case k7 => k_is); (case k8 => first | exact Nat.lt_of_le_of_lt (Nat.le_add_right _ _) (Room.hd (by assumption)) | (have hR9 := Room.hd (by assumption); omega)); (case k9 => first | exact hb9 _ _ _ _ (by k_is) | exact BindsTo.of_eq rfl | exact binds_K (by k_in) rfl (by k_is) rfl rfl rfl); (case c5 => decide); (case kB => exact locs rfl); (case c2 => exact rfl); (case c3 => exact rfl); (case c4 => exact rfl)); intro L' h' F' N'; (try dsimp only); (try k_fold))
  refine cut_stmt (h₀ := s.heap) (L := L') (fun m nw => ∃ O, nw = [(O, listOf (List.toArray ([] : List Value)) 0)] ∧ MR m (PySem.Str.ofString "groups") O ∧ MR m (PySem.Str.ofString "script") sl) ?_ ?_
  · walk_at "mine go"
    (rename Fr _ _ _ _ => kF); (rename News _ _ _ _ => kN)
    exact Turn.mk' kF kN ⟨_, rfl, by walk_at "mine look", by walk_at "mine look"⟩
  rintro h0 tk0 m0 nw0 kF kN ⟨O1, rfl, m1, m9⟩
  clear F' N'
  (try k_fold)
  refine cut_stmt (h₀ := s.heap) (L := L') (fun m nw => ∃ O2, nw = [(O2, listOf (List.toArray ([] : List Value)) 0), (O1, listOf (List.toArray ([] : List Value)) 0)] ∧ @LT.lt Nat _ O1 O2 ∧ MR m (PySem.Str.ofString "groups") O1 ∧ MR m (PySem.Str.ofString "full") O2 ∧ MR m (PySem.Str.ofString "script") sl) ?_ ?_
  · walk_at "mine go"
    (rename Fr _ _ _ _ => kF); (rename News _ _ _ _ => kN)
    exact Turn.mk' kF kN ⟨_, rfl, by assumption, by walk_at "mine look", by walk_at "mine look", by walk_at "mine look"⟩
  clear kF kN m1 m9
  rintro h0 tk0 m0 nw0 kF kN ⟨O2, rfl, l12, m1, m2, m9⟩
  (try k_fold)
  refine cut_stmt (h₀ := s.heap) (L := L') (fun m nw => ∃ O3, nw = [(O3, listOf (List.toArray ([] : List Value)) 0), (O2, listOf (List.toArray ([] : List Value)) 0), (O1, listOf (List.toArray ([] : List Value)) 0)] ∧ ((@LT.lt Nat _ O2 O3) ∧ (@LT.lt Nat _ O1 O3)) ∧ MR m (PySem.Str.ofString "groups") O1 ∧ MR m (PySem.Str.ofString "full") O2 ∧ MR m (PySem.Str.ofString "texts") O3 ∧ MR m (PySem.Str.ofString "script") sl) ?_ ?_
  · walk_at "mine go"
    (rename Fr _ _ _ _ => kF); (rename News _ _ _ _ => kN)
    exact Turn.mk' kF kN ⟨_, rfl, by assumption, by walk_at "mine look", by walk_at "mine look", by walk_at "mine look", by walk_at "mine look"⟩
  clear kF kN m1 m2 m9
  rintro h0 tk0 m0 nw0 kF kN ⟨O3, rfl, ⟨l23, l13⟩, m1, m2, m3, m9⟩
  (try k_fold)
  walk_at "mine go"
  refine for_stmt ?_ (fun _ => rfl)
  refine wpAny_mono (show wpAny _ _ _ (fun v s' => Put (∃ (D : Addr) (zs' : List Value) (xs' : List Int) (nn : Nat) (h' : Heap) (tk : Nat), v = .ref D ∧ s' = { s with heap := h', toks := tk } ∧ Fr s.heap L' h' m0 ∧ News s.heap L' h' ((D, listOf zs'.toArray nn) :: [(O3, listOf (List.toArray ([] : List Value)) 0), (O2, listOf (List.toArray ([] : List Value)) 0), (O1, listOf (List.toArray ([] : List Value)) 0)]) ∧ ((@LT.lt Nat _ O3 D) ∧ (@LT.lt Nat _ O2 D) ∧ (@LT.lt Nat _ O1 D)) ∧ IntsAre zs' xs' ∧ 1 ≤ xs'.length ∧ xs'.length ≤ 3)) (fun _ _ => False) _ from ?_) ?_ (fun _ _ h => h.elim)
  · walk_at "mine go"
    · (rename Fr _ _ _ _ => kF'); (rename News _ _ _ _ => kN'); (rename IntsAre _ _ => hi)
      exact ⟨_, _, _, _, _, _, rfl, rfl, kF', kN', by assumption, hi, by assumption, by rw [List.length_take]; omega⟩
    · (rename Fr _ _ _ _ => kF'); (rename News _ _ _ _ => kN')
      rename_i ll
      exact ⟨_, [_], [1], _, _, _, rfl, rfl, kF', News.cut2 kN', ⟨ll.2.1, ll.2.2.1, ll.2.2.2⟩, .cons _ _ .nil, Nat.le_refl _, by decide⟩
  rintro v s' ⟨D, zs', xs', nn, h1, tk1, rfl, rfl, kF1, kN1, ⟨l3D, l2D, l1D⟩, hz', hx1, hx3⟩
  clear kF kN
  refine for_it (L := L') rfl (CM.iter_list (Room.hhd H) (News.isList kN1 (.head _))) (fun I k m news => ∃ (ws : List (Item × Bool)) (gs fs : List Addr) (ts : List Value) (own : List (Addr × Obj)) (n1 n2 n3 : Nat), news = (D, listOf zs'.toArray nn) :: (O3, listOf ts.toArray n3) :: (O2, listOf (fs.map Value.ref).toArray n2) :: (O1, listOf (gs.map Value.ref).toArray n1) :: own ∧
      ws.length = k ∧ StrsAre ts (ws.map wtext) ∧ (∀ p ∈ ws, ItOk p.1 ∧ p.1.W ≤ 80) ∧ TupsAt own gs (ws.map (·.1)) ∧ TupsAt own fs (ws.map fun p => fullIt p.1) ∧ PySem.W.OwnOff own [D, O3, O2, O1] ∧ MR m (PySem.Str.ofString "groups") O1 ∧ MR m (PySem.Str.ofString "full") O2 ∧ MR m (PySem.Str.ofString "texts") O3 ∧ MR m (PySem.Str.ofString "script") sl) kF1 kN1
    (fun b hb => by rw [List.mem_singleton.mp hb]; exact .inr ⟨_, fun I i m news hJ => by obtain ⟨_, _, _, _, _, _, _, _, rfl, _⟩ := hJ; exact .head _⟩)
    (fun I _ => ⟨[], [], [], [], [], _, _, _, rfl, rfl, .nil, (fun p h => nomatch h), TupsAt.nil, TupsAt.nil, (fun p h => nomatch h), m1, m2, m3, m9⟩) ?_ ?_
  · --[turn
    clear kF1 kN1 m1 m2 m3 m9
    rintro I k v m news h tk oI hk hv ⟨ws, gs, fs, ts, own, n1, n2, n3, rfl, hwl, hts, hok, hG, hF, hoff, m1, m2, m3, m9⟩ kF kN hI
    (try k_fold)
    obtain ⟨x, u, hx, rfl⟩ := ints_get hz' hv
    have hk3 : k < 3 := by rw [hz'.length] at hk; omega
    have hDI : @Ne Nat D I := hI _ (.head _)
    have h3I : @Ne Nat O3 I := hI _ (.tail _ (.head _))
    have h2I : @Ne Nat O2 I := hI _ (.tail _ (.tail _ (.head _)))
    have h1I : @Ne Nat O1 I := hI _ (.tail _ (.tail _ (.tail _ (.head _))))
    clear hv hx
    walk_at "mine upto"
    (rename Fr _ _ _ _ => kF); (try (rename News _ _ _ _ => kN))
    -- x, part = divmod(x, 8)
    have hp8 : Builtin.divisionGoesByPylong x 8 = false := PyProof.noPylong_of_log2 (by decide +kernel)
    obtain ⟨x1, hx1⟩ : ∃ z, x.fdiv 8 = z := ⟨_, rfl⟩
    obtain ⟨P, hP⟩ : ∃ z, x.fmod 8 = z := ⟨_, rfl⟩
    have hP0 : 0 ≤ P := hP ▸ Int.fmod_nonneg_of_pos x (by decide)
    have hP8 : P < 8 := hP ▸ Int.fmod_lt_of_pos x (by decide)
    refine cut_stmt (h₀ := s.heap) (L := L') (fun m nw => nw = (I, oI) :: (D, listOf zs'.toArray nn) :: (O3, listOf ts.toArray n3) :: (O2, listOf (fs.map Value.ref).toArray n2) :: (O1, listOf (gs.map Value.ref).toArray n1) :: own ∧ (∃ t, m (PySem.Str.ofString "x") = some (.int x1 t)) ∧ (∃ t, m (PySem.Str.ofString "part") = some (.int P t)) ∧ MR m (PySem.Str.ofString "groups") O1 ∧ MR m (PySem.Str.ofString "full") O2 ∧ MR m (PySem.Str.ofString "texts") O3 ∧ MR m (PySem.Str.ofString "script") sl) ?_ ?_
    · walk_at "mine go"
      (rename Fr _ _ _ _ => kF'); (rename News _ _ _ _ => kN')
      exact Turn.mk' kF' (News.drop1 kN') ⟨rfl, ⟨_, by walk_at "mine look"⟩, ⟨_, by walk_at "mine look"⟩, by walk_at "mine look", by walk_at "mine look", by walk_at "mine look", by walk_at "mine look"⟩
    clear kF kN m1 m2 m3 m9
    rintro h0 tk0 m nw0 kF kN ⟨rfl, ⟨tx, mx⟩, ⟨tp, mp⟩, m1, m2, m3, m9⟩
    (try k_fold)
    -- kind = _law_kinds[part]
    refine cut_stmt (h₀ := s.heap) (L := L') (fun m nw => nw = (I, oI) :: (D, listOf zs'.toArray nn) :: (O3, listOf ts.toArray n3) :: (O2, listOf (fs.map Value.ref).toArray n2) :: (O1, listOf (gs.map Value.ref).toArray n1) :: own ∧ (∃ t, m (PySem.Str.ofString "x") = some (.int x1 t)) ∧ (∃ t, m (PySem.Str.ofString "kind") = some (.str (RS.tx [(lawKd P.toNat).sign]) t)) ∧ MR m (PySem.Str.ofString "groups") O1 ∧ MR m (PySem.Str.ofString "full") O2 ∧ MR m (PySem.Str.ofString "texts") O3 ∧ MR m (PySem.Str.ofString "script") sl) ?_ ?_
    · --[slow
      obtain rfl | rfl | rfl | rfl | rfl | rfl | rfl | rfl : P = 0 ∨ P = 1 ∨ P = 2 ∨ P = 3 ∨ P = 4 ∨ P = 5 ∨ P = 6 ∨ P = 7 := by omega
      all_goals walk_at "mine go"
      all_goals (rename Fr _ _ _ _ => kF')
      all_goals (rename News _ _ _ _ => kN')
      all_goals exact Turn.mk' kF' kN' ⟨rfl, ⟨_, by walk_at "mine look"⟩, ⟨_, by walk_at "mine look"⟩, by walk_at "mine look", by walk_at "mine look", by walk_at "mine look", by walk_at "mine look"⟩
      --]
    clear kF kN m1 m2 m3 m9 mx mp
    rintro h0 tk0 m nw0 kF kN ⟨rfl, ⟨tx, mx⟩, ⟨tk2, mk⟩, m1, m2, m3, m9⟩
    (try k_fold)
    generalize lawKd P.toNat = kk at mk
    clear hP hP0 hP8 P hx1 hp8 x u
    -- x, part = divmod(x, 2)
    have hp2 : Builtin.divisionGoesByPylong x1 2 = false := PyProof.noPylong_of_log2 (by decide +kernel)
    obtain ⟨x2, hx2⟩ : ∃ z, x1.fdiv 2 = z := ⟨_, rfl⟩
    obtain ⟨P, hP⟩ : ∃ z, x1.fmod 2 = z := ⟨_, rfl⟩
    have hP0 : 0 ≤ P := hP ▸ Int.fmod_nonneg_of_pos x1 (by decide)
    have hP2 : P < 2 := hP ▸ Int.fmod_lt_of_pos x1 (by decide)
    refine cut_stmt (h₀ := s.heap) (L := L') (fun m nw => nw = (I, oI) :: (D, listOf zs'.toArray nn) :: (O3, listOf ts.toArray n3) :: (O2, listOf (fs.map Value.ref).toArray n2) :: (O1, listOf (gs.map Value.ref).toArray n1) :: own ∧ (∃ t, m (PySem.Str.ofString "x") = some (.int x2 t)) ∧ (∃ t, m (PySem.Str.ofString "part") = some (.int P t)) ∧ (∃ t, m (PySem.Str.ofString "kind") = some (.str (RS.tx [kk.sign]) t)) ∧ MR m (PySem.Str.ofString "groups") O1 ∧ MR m (PySem.Str.ofString "full") O2 ∧ MR m (PySem.Str.ofString "texts") O3 ∧ MR m (PySem.Str.ofString "script") sl) ?_ ?_
    · walk_at "mine go"
      (rename Fr _ _ _ _ => kF'); (rename News _ _ _ _ => kN')
      exact Turn.mk' kF' (News.drop1 kN') ⟨rfl, ⟨_, by walk_at "mine look"⟩, ⟨_, by walk_at "mine look"⟩, ⟨_, by walk_at "mine look"⟩, by walk_at "mine look", by walk_at "mine look", by walk_at "mine look", by walk_at "mine look"⟩
    clear kF kN m1 m2 m3 m9 mx mk
    rintro h0 tk0 m nw0 kF kN ⟨rfl, ⟨tx, mx⟩, ⟨tp, mp⟩, ⟨tk2, mk⟩, m1, m2, m3, m9⟩
    (try k_fold)
    -- if kind == 't': ..
    obtain ⟨w1, hw1⟩ : ∃ z, (8 : Int) * x2.fmod 2 = z := ⟨_, rfl⟩
    have hm1 : IntMulOk 8 (x2.fmod 2) := IntMulOk.of_left (by decide +kernel)
    have b1 := Int.fmod_nonneg_of_pos x2 (show (0 : Int) < 2 by decide)
    have b2 := Int.fmod_lt_of_pos x2 (show (0 : Int) < 2 by decide)
    have b3 := Int.fmod_nonneg_of_pos x2 (show (0 : Int) < 3 by decide)
    have b4 := Int.fmod_lt_of_pos x2 (show (0 : Int) < 3 by decide)
    have b5 := Int.fmod_nonneg_of_pos (x2 + 11) (show (0 : Int) < 40 by decide)
    have b6 := Int.fmod_lt_of_pos (x2 + 11) (show (0 : Int) < 40 by decide)
    refine cut_stmt (h₀ := s.heap) (L := L') (fun m nw => nw = (I, oI) :: (D, listOf zs'.toArray nn) :: (O3, listOf ts.toArray n3) :: (O2, listOf (fs.map Value.ref).toArray n2) :: (O1, listOf (gs.map Value.ref).toArray n1) :: own ∧ (∃ W : Nat, ItOk ⟨kk, W⟩ ∧ W ≤ 80 ∧ ∃ t, m (PySem.Str.ofString "width") = some (.int (W : Int) t)) ∧ (∃ t, m (PySem.Str.ofString "part") = some (.int P t)) ∧ (∃ t, m (PySem.Str.ofString "kind") = some (.str (RS.tx [kk.sign]) t)) ∧ MR m (PySem.Str.ofString "groups") O1 ∧ MR m (PySem.Str.ofString "full") O2 ∧ MR m (PySem.Str.ofString "texts") O3 ∧ MR m (PySem.Str.ofString "script") sl) ?_ ?_
    · have hn40 : ¬ (Builtin.divisionGoesByPylong (x2 + 11) 40 = true) := by rw [PyProof.noPylong_of_log2 (by decide +kernel)]; exact Bool.false_ne_true
      have hn3 : ¬ (Builtin.divisionGoesByPylong x2 3 = true) := by rw [PyProof.noPylong_of_log2 (by decide +kernel)]; exact Bool.false_ne_true
      have hn2 : ¬ (Builtin.divisionGoesByPylong x2 2 = true) := by rw [PyProof.noPylong_of_log2 (by decide +kernel)]; exact Bool.false_ne_true
      walk_at "mine go"
      · (rename Fr _ _ _ _ => kF'); (rename News _ _ _ _ => kN'); (rename (_ == _) = true => hc)
        obtain rfl := sign_t hc
        exact Turn.mk' kF' kN' ⟨rfl, ⟨(64 + w1).toNat, ⟨by show 1 ≤ (64 + w1).toNat; omega, by show (64 + w1).toNat ≤ 100; omega, fun _ => ⟨by show (64 + w1).toNat % 8 = 0; omega, by show 64 ≤ (64 + w1).toNat; omega⟩⟩, by omega, _, by rw [Int.toNat_of_nonneg (by omega)]; walk_at "mine look"⟩, ⟨_, by walk_at "mine look"⟩, ⟨_, by walk_at "mine look"⟩, by walk_at "mine look", by walk_at "mine look", by walk_at "mine look", by walk_at "mine look"⟩
      · (rename Fr _ _ _ _ => kF'); (rename News _ _ _ _ => kN'); (rename (_ == _) = true => hc)
        obtain rfl := sign_b hc
        exact Turn.mk' kF' kN' ⟨rfl, ⟨(1 + x2.fmod 3).toNat, ⟨by show 1 ≤ (1 + x2.fmod 3).toNat; omega, by show (1 + x2.fmod 3).toNat ≤ 100; omega, fun e => nomatch e⟩, by omega, _, by rw [Int.toNat_of_nonneg (by omega)]; walk_at "mine look"⟩, ⟨_, by walk_at "mine look"⟩, ⟨_, by walk_at "mine look"⟩, by walk_at "mine look", by walk_at "mine look", by walk_at "mine look", by walk_at "mine look"⟩
      · (rename Fr _ _ _ _ => kF'); (rename News _ _ _ _ => kN'); (rename (_ == PySem.Str.ofString "t") = false => hc)
        exact Turn.mk' kF' kN' ⟨rfl, ⟨(1 + (x2 + 11).fmod 40).toNat, ⟨by show 1 ≤ (1 + (x2 + 11).fmod 40).toNat; omega, by show (1 + (x2 + 11).fmod 40).toNat ≤ 100; omega, fun e => absurd e (sign_nt hc)⟩, by omega, _, by rw [Int.toNat_of_nonneg (by omega)]; walk_at "mine look"⟩, ⟨_, by walk_at "mine look"⟩, ⟨_, by walk_at "mine look"⟩, by walk_at "mine look", by walk_at "mine look", by walk_at "mine look", by walk_at "mine look"⟩
    clear kF kN m1 m2 m3 m9 mx mp mk
    rintro h0 tk0 m nw0 kF kN ⟨rfl, ⟨W, hIt, hW80, tw, mw⟩, ⟨tp, mp⟩, ⟨tk2, mk⟩, m1, m2, m3, m9⟩
    (try k_fold)
    clear hw1 hm1 b1 b2 b3 b4 b5 b6 hx2 hp2 w1
    -- groups.append((kind, width))
    have hD3 : @Ne Nat D O3 := Nat.ne_of_gt l3D
    have hD2 : @Ne Nat D O2 := Nat.ne_of_gt l2D
    have hD1 : @Ne Nat D O1 := Nat.ne_of_gt l1D
    have h32 : @Ne Nat O3 O2 := Nat.ne_of_gt l23
    have h31 : @Ne Nat O3 O1 := Nat.ne_of_gt l13
    have h21 : @Ne Nat O2 O1 := Nat.ne_of_gt l12
    have h23 : @Ne Nat O2 O3 := Nat.ne_of_lt l23
    have h13 : @Ne Nat O1 O3 := Nat.ne_of_lt l13
    have h12 : @Ne Nat O1 O2 := Nat.ne_of_lt l12
    have hI3 : @Ne Nat I O3 := fun e => h3I e.symm
    have hI2 : @Ne Nat I O2 := fun e => h2I e.symm
    have hI1 : @Ne Nat I O1 := fun e => h1I e.symm
    have hgl : gs.length = k := by rw [hG.1, List.length_map, hwl]
    have hfl : fs.length = k := by rw [hF.1, List.length_map, hwl]
    have htl : ts.length = k := by rw [hts.length, List.length_map, hwl]
    have z1 : ((gs.map Value.ref).toArray).size ≤ sizeLine := by rw [List.size_toArray, List.length_map, sizeLine_eq]; omega
    have z2 : ((fs.map Value.ref).toArray).size ≤ sizeLine := by rw [List.size_toArray, List.length_map, sizeLine_eq]; omega
    have z3 : (ts.toArray).size ≤ sizeLine := by rw [List.size_toArray, sizeLine_eq]; omega
    refine cut_stmt (h₀ := s.heap) (L := L') (fun m nw => ∃ (gs' : List Addr) (own' : List (Addr × Obj)) (n1' : Nat), nw = (I, oI) :: (D, listOf zs'.toArray nn) :: (O3, listOf ts.toArray n3) :: (O2, listOf (fs.map Value.ref).toArray n2) :: (O1, listOf (gs'.map Value.ref).toArray n1') :: own' ∧
      TupsAt own' gs' (ws.map (·.1) ++ [⟨kk, W⟩]) ∧ (∀ p ∈ own, p ∈ own') ∧ PySem.W.OwnOff own' [D, O3, O2, O1] ∧ (∀ p ∈ own', p.1 ≠ I) ∧ (∃ t, m (PySem.Str.ofString "width") = some (.int (W : Int) t)) ∧ (∃ t, m (PySem.Str.ofString "part") = some (.int P t)) ∧ (∃ t, m (PySem.Str.ofString "kind") = some (.str (RS.tx [kk.sign]) t)) ∧ MR m (PySem.Str.ofString "groups") O1 ∧ MR m (PySem.Str.ofString "full") O2 ∧ MR m (PySem.Str.ofString "texts") O3 ∧ MR m (PySem.Str.ofString "script") sl) ?_ ?_
    · walk_at "mine go"
      (rename Fr _ _ _ _ => kF'); (rename News _ _ _ _ => kN')
      rename_i T h5 l1 h6
      simp only [List.push_toArray, map_ref_snoc] at kN'
      exact Turn.mk' kF' (News.to6 kN') ⟨gs ++ [T], _, _, rfl, TupsAt.snoc hG (fun p hp => .tail _ hp) (.head _), (fun p hp => .tail _ hp), ownOff_cons hoff (gt4 l1.2.1 l1.2.2.1 l1.2.2.2.1 l1.2.2.2.2.1),
        (fun p hp => by
          rcases List.mem_cons.mp hp with rfl | hp
          · exact Nat.ne_of_gt l1.1
          · exact hI p (.tail _ (.tail _ (.tail _ (.tail _ hp))))), ⟨_, by walk_at "mine look"⟩, ⟨_, by walk_at "mine look"⟩, ⟨_, by walk_at "mine look"⟩, by walk_at "mine look", by walk_at "mine look", by walk_at "mine look", by walk_at "mine look"⟩
    clear kF kN m1 m2 m3 m9 mw mp mk z1 hI
    rintro h0 tk0 m nw0 kF kN ⟨gs', own', n1', rfl, hG', hsub, hoff', hI', ⟨tw, mw⟩, ⟨tp, mp⟩, ⟨tk2, mk⟩, m1, m2, m3, m9⟩
    (try k_fold)
    -- texts.append(('>' if part else '') + kind + str(width))
    refine cut_stmt (h₀ := s.heap) (L := L') (fun m nw => ∃ (b : Bool) (v : Value) (n3' : Nat), nw = (I, oI) :: (D, listOf zs'.toArray nn) :: (O3, listOf (ts ++ [v]).toArray n3') :: (O2, listOf (fs.map Value.ref).toArray n2) :: (O1, listOf (gs'.map Value.ref).toArray n1') :: own' ∧
      (∃ t, v = .str (wtext (⟨kk, W⟩, b)) t) ∧ (∃ t, m (PySem.Str.ofString "width") = some (.int (W : Int) t)) ∧ (∃ t, m (PySem.Str.ofString "kind") = some (.str (RS.tx [kk.sign]) t)) ∧ MR m (PySem.Str.ofString "groups") O1 ∧ MR m (PySem.Str.ofString "full") O2 ∧ MR m (PySem.Str.ofString "texts") O3 ∧ MR m (PySem.Str.ofString "script") sl) ?_ ?_
    · walk_at "mine go"
      · (rename Fr _ _ _ _ => kF'); (rename News _ _ _ _ => kN')
        simp only [List.push_toArray] at kN'
        exact Turn.mk' kF' kN' ⟨true, _, _, rfl, ⟨_, val_str (wtext_t kk W)⟩, ⟨_, by walk_at "mine look"⟩, ⟨_, by walk_at "mine look"⟩, by walk_at "mine look", by walk_at "mine look", by walk_at "mine look", by walk_at "mine look"⟩
      · (rename Fr _ _ _ _ => kF'); (rename News _ _ _ _ => kN')
        simp only [List.push_toArray] at kN'
        exact Turn.mk' kF' kN' ⟨false, _, _, rfl, ⟨_, val_str (wtext_f kk W)⟩, ⟨_, by walk_at "mine look"⟩, ⟨_, by walk_at "mine look"⟩, by walk_at "mine look", by walk_at "mine look", by walk_at "mine look", by walk_at "mine look"⟩
    clear kF kN m1 m2 m3 m9 mw mp mk z3
    rintro h0 tk0 m nw0 kF kN ⟨b, v, n3', rfl, hv, ⟨tw, mw⟩, ⟨tk2, mk⟩, m1, m2, m3, m9⟩
    (try k_fold)
    have hcin := pP_in kk
    obtain ⟨tv, rfl⟩ := hv
    have fin : ∀ (T : Addr) (tt uu : Tok) (nt n2' : Nat) (m' : PySem.Str → Option Value), (∀ x ∈ [D, O3, O2, O1], @Ne Nat T x) → @Ne Nat T I → (MR m' (PySem.Str.ofString "groups") O1 ∧ MR m' (PySem.Str.ofString "full") O2 ∧ MR m' (PySem.Str.ofString "texts") O3 ∧ MR m' (PySem.Str.ofString "script") sl) →
        ∃ nx, (I, oI) :: (D, listOf zs'.toArray nn) :: (O3, listOf (ts ++ [Value.str (wtext (⟨kk, W⟩, b)) tv]).toArray n3') :: (O2, listOf ((fs ++ [T]).map Value.ref).toArray n2') :: (O1, listOf (gs'.map Value.ref).toArray n1') :: (T, ({ cls := .type "tuple", data := .seq [.str (RS.tx [(fullIt ⟨kk, W⟩).k.sign]) tt, .int ((fullIt ⟨kk, W⟩).W : Int) uu].toArray nt } : Obj)) :: own' = (I, oI) :: nx ∧ (∀ p ∈ nx, p.1 ≠ I) ∧
          ∃ (ws : List (Item × Bool)) (gs fs : List Addr) (ts : List Value) (own : List (Addr × Obj)) (n1 n2 n3 : Nat), nx = (D, listOf zs'.toArray nn) :: (O3, listOf ts.toArray n3) :: (O2, listOf (fs.map Value.ref).toArray n2) :: (O1, listOf (gs.map Value.ref).toArray n1) :: own ∧
            ws.length = k + 1 ∧ StrsAre ts (ws.map wtext) ∧ (∀ p ∈ ws, ItOk p.1 ∧ p.1.W ≤ 80) ∧ TupsAt own gs (ws.map (·.1)) ∧ TupsAt own fs (ws.map fun p => fullIt p.1) ∧ PySem.W.OwnOff own [D, O3, O2, O1] ∧ (MR m' (PySem.Str.ofString "groups") O1 ∧ MR m' (PySem.Str.ofString "full") O2 ∧ MR m' (PySem.Str.ofString "texts") O3 ∧ MR m' (PySem.Str.ofString "script") sl) := by
      intro T tt uu nt n2' m' hT hTI hm
      refine ⟨_, rfl, ?_, ws ++ [(⟨kk, W⟩, b)], gs', fs ++ [T], _, _, _, _, _, rfl, ?_, ?_, ?_, ?_, ?_, ?_, hm⟩
      · intro p hp
        rcases List.mem_cons.mp hp with rfl | hp
        · exact hDI
        rcases List.mem_cons.mp hp with rfl | hp
        · exact h3I
        rcases List.mem_cons.mp hp with rfl | hp
        · exact h2I
        rcases List.mem_cons.mp hp with rfl | hp
        · exact h1I
        rcases List.mem_cons.mp hp with rfl | hp
        · exact hTI
        · exact hI' p hp
      · rw [List.length_append, hwl]; rfl
      · rw [List.map_append]; exact StrsAre.snoc hts ⟨_, rfl⟩
      · intro p hp
        rcases List.mem_append.mp hp with hp | hp
        · exact hok p hp
        · rw [List.mem_singleton.mp hp]; exact ⟨hIt, hW80⟩
      · rw [List.map_append]; exact hG'.mono fun p hp => .tail _ hp
      · rw [List.map_append]; exact TupsAt.snoc hF (fun p hp => .tail _ (hsub p hp)) (.head _)
      · exact ownOff_cons hoff' hT
    walk_at "mine go"
    · (rename Fr _ _ _ _ => kF'); (rename News _ _ _ _ => kN')
      (rename (_ == PySem.Str.ofString "b") = _ => hb)
      (rename kk.pad = _ => hp)
      rename_i T h5 l1 h6
      obtain ⟨e1, e2⟩ := full_ok (kk := kk) (W := W) (.inl ⟨hp, rfl⟩) (.inl ⟨sign_b hb, rfl⟩)
      simp only [List.push_toArray, map_ref_snoc] at kN'
      rw [e1, e2] at kN'
      exact Turn.mk' kF' (News.to6 kN') (fin T _ _ _ _ _ (gt4 l1.2.1 l1.2.2.1 l1.2.2.2.1 l1.2.2.2.2.1) (Nat.ne_of_gt l1.1) ⟨by walk_at "mine look", by walk_at "mine look", by walk_at "mine look", by walk_at "mine look"⟩)
    · (rename Fr _ _ _ _ => kF'); (rename News _ _ _ _ => kN')
      (rename (_ == PySem.Str.ofString "b") = _ => hb)
      (rename kk.pad = _ => hp)
      rename_i T h5 l1 h6
      obtain ⟨e1, e2⟩ := full_ok (kk := kk) (W := W) (.inl ⟨hp, rfl⟩) (.inr ⟨sign_nb hb, rfl⟩)
      simp only [List.push_toArray, map_ref_snoc] at kN'
      rw [e1, e2] at kN'
      exact Turn.mk' kF' (News.to6 kN') (fin T _ _ _ _ _ (gt4 l1.2.1 l1.2.2.1 l1.2.2.2.1 l1.2.2.2.2.1) (Nat.ne_of_gt l1.1) ⟨by walk_at "mine look", by walk_at "mine look", by walk_at "mine look", by walk_at "mine look"⟩)
    · (rename Fr _ _ _ _ => kF'); (rename News _ _ _ _ => kN')
      (rename (_ == PySem.Str.ofString "b") = _ => hb)
      (rename (_ == PySem.Str.ofString "t") = _ => ht)
      (rename kk.pad = _ => hp)
      rename_i T h5 l1 h6
      obtain ⟨e1, e2⟩ := full_ok (kk := kk) (W := W) (.inr (.inl ⟨hp, sign_t ht, rfl⟩)) (.inl ⟨sign_b hb, rfl⟩)
      simp only [List.push_toArray, map_ref_snoc] at kN'
      rw [e1, e2] at kN'
      exact Turn.mk' kF' (News.to6 kN') (fin T _ _ _ _ _ (gt4 l1.2.1 l1.2.2.1 l1.2.2.2.1 l1.2.2.2.2.1) (Nat.ne_of_gt l1.1) ⟨by walk_at "mine look", by walk_at "mine look", by walk_at "mine look", by walk_at "mine look"⟩)
    · (rename Fr _ _ _ _ => kF'); (rename News _ _ _ _ => kN')
      (rename (_ == PySem.Str.ofString "b") = _ => hb)
      (rename (_ == PySem.Str.ofString "t") = _ => ht)
      (rename kk.pad = _ => hp)
      rename_i T h5 l1 h6
      obtain ⟨e1, e2⟩ := full_ok (kk := kk) (W := W) (.inr (.inl ⟨hp, sign_t ht, rfl⟩)) (.inr ⟨sign_nb hb, rfl⟩)
      simp only [List.push_toArray, map_ref_snoc] at kN'
      rw [e1, e2] at kN'
      exact Turn.mk' kF' (News.to6 kN') (fin T _ _ _ _ _ (gt4 l1.2.1 l1.2.2.1 l1.2.2.2.1 l1.2.2.2.2.1) (Nat.ne_of_gt l1.1) ⟨by walk_at "mine look", by walk_at "mine look", by walk_at "mine look", by walk_at "mine look"⟩)
    · (rename Fr _ _ _ _ => kF'); (rename News _ _ _ _ => kN')
      (rename (_ == PySem.Str.ofString "b") = _ => hb)
      (rename (_ == PySem.Str.ofString "t") = _ => ht)
      (rename kk.pad = _ => hp)
      rename_i T h5 l1 h6
      obtain ⟨e1, e2⟩ := full_ok (kk := kk) (W := W) (.inr (.inr ⟨hp, sign_nt ht, rfl⟩)) (.inl ⟨sign_b hb, rfl⟩)
      simp only [List.push_toArray, map_ref_snoc] at kN'
      rw [e1, e2] at kN'
      exact Turn.mk' kF' (News.to6 kN') (fin T _ _ _ _ _ (gt4 l1.2.1 l1.2.2.1 l1.2.2.2.1 l1.2.2.2.2.1) (Nat.ne_of_gt l1.1) ⟨by walk_at "mine look", by walk_at "mine look", by walk_at "mine look", by walk_at "mine look"⟩)
    · (rename Fr _ _ _ _ => kF'); (rename News _ _ _ _ => kN')
      (rename (_ == PySem.Str.ofString "b") = _ => hb)
      (rename (_ == PySem.Str.ofString "t") = _ => ht)
      (rename kk.pad = _ => hp)
      rename_i T h5 l1 h6
      obtain ⟨e1, e2⟩ := full_ok (kk := kk) (W := W) (.inr (.inr ⟨hp, sign_nt ht, rfl⟩)) (.inr ⟨sign_nb hb, rfl⟩)
      simp only [List.push_toArray, map_ref_snoc] at kN'
      rw [e1, e2] at kN'
      exact Turn.mk' kF' (News.to6 kN') (fin T _ _ _ _ _ (gt4 l1.2.1 l1.2.2.1 l1.2.2.2.1 l1.2.2.2.2.1) (Nat.ne_of_gt l1.1) ⟨by walk_at "mine look", by walk_at "mine look", by walk_at "mine look", by walk_at "mine look"⟩)
    --]turn
  · clear kF1 kN1 m1 m2 m3 m9
    rintro I m news h tk ⟨ws, gs, fs, ts, own, n1, n2, n3, rfl, hwl, hts, hok, hG, hF, hoff, m1, m2, m3, m9⟩ kF kN
    replace kN := News.drop1 kN
    (try k_fold)
    have hw3 : 1 ≤ ws.length ∧ ws.length ≤ 3 := by rw [hwl, hz'.length]; exact ⟨hx1, hx3⟩
    clear hz' hx1 hx3 hwl
    obtain ⟨its, hits⟩ : ∃ z, ws.map (·.1) = z := ⟨_, rfl⟩
    obtain ⟨fits, hfits⟩ : ∃ z, ws.map (fun p => fullIt p.1) = z := ⟨_, rfl⟩
    rw [hits] at hG
    rw [hfits] at hF
    have hil : its.length ≤ 3 := by rw [← hits, List.length_map]; exact hw3.2
    have hfl : fits.length ≤ 3 := by rw [← hfits, List.length_map]; exact hw3.2
    obtain ⟨f0, f8, -⟩ := lfmod8 (totW fits)
    obtain ⟨f, hf⟩ := Int.eq_ofNat_of_zero_le f0
    have hpad := padU_f hf
    -- fill = -sum([g[1] for g in full]) mod 8
    refine cut_stmt (h₀ := s.heap) (L := L') (fun m nw => nw = (O3, listOf ts.toArray n3) :: (O2, listOf (fs.map Value.ref).toArray n2) :: (O1, listOf (gs.map Value.ref).toArray n1) :: own ∧ (∃ t, m (PySem.Str.ofString "fill") = some (.int (f : Int) t)) ∧ MR m (PySem.Str.ofString "groups") O1 ∧ MR m (PySem.Str.ofString "full") O2 ∧ MR m (PySem.Str.ofString "texts") O3 ∧ MR m (PySem.Str.ofString "script") sl) ?_ ?_
    · walk_at "mine go"
      refine comp_widths (Room.hhd H) kF kN (.tail _ (.head _)) hF (fun p hp => .tail _ (.tail _ (.tail _ hp))) (by omega) (fun Q hq => nameX_L kF m2 hq) ?_
      intro D2 ys h2 tk2 F2 N2 hne hI2
      walk_at "mine go"
      (rename Fr _ _ _ _ => kF'); (rename News _ _ _ _ => kN')
      exact Turn.mk' kF' (News.drop1 kN') ⟨rfl, ⟨_, by rw [← hf, ← sum_W]; walk_at "mine look"⟩, by walk_at "mine look", by walk_at "mine look", by walk_at "mine look", by walk_at "mine look"⟩
    clear kF kN m1 m2 m3 m9
    rintro h0 tk0 m nw0 kF kN ⟨rfl, ⟨tx, mx⟩, m1, m2, m3, m9⟩
    (try k_fold)
    have h32 : @Ne Nat O3 O2 := Nat.ne_of_gt l23
    have h12 : @Ne Nat O1 O2 := Nat.ne_of_lt l12
    have z2 : ((fs.map Value.ref).toArray).size ≤ sizeLine := by rw [List.size_toArray, List.length_map, hF.1, sizeLine_eq]; omega
    -- if fill > 0: full.append(('u', fill))
    refine cut_stmt (h₀ := s.heap) (L := L') (fun m nw => ∃ (fs' : List Addr) (own' : List (Addr × Obj)) (n2' : Nat), nw = (O3, listOf ts.toArray n3) :: (O2, listOf (fs'.map Value.ref).toArray n2') :: (O1, listOf (gs.map Value.ref).toArray n1) :: own' ∧ TupsAt own' fs' (padU fits) ∧ TupsAt own' gs its ∧ MR m (PySem.Str.ofString "groups") O1 ∧ MR m (PySem.Str.ofString "full") O2 ∧ MR m (PySem.Str.ofString "texts") O3 ∧ MR m (PySem.Str.ofString "script") sl) ?_ ?_
    · walk_at "mine go"
      · (rename Fr _ _ _ _ => kF'); (rename News _ _ _ _ => kN')
        (rename (0 < (f : Int)) => hf0)
        have hf1 : 0 < f := by omega
        have eu : PySem.Str.ofString "u" = RS.tx [(⟨.u, f⟩ : Item).k.sign] := rfl
        simp only [List.push_toArray, map_ref_snoc] at kN'
        rw [eu] at kN'
        exact Turn.mk' kF' (News.to4 kN') ⟨_, _, _, rfl, by rw [hpad, if_pos hf1]; exact TupsAt.snoc hF (fun p hp => .tail _ hp) (.head _), hG.mono fun p hp => .tail _ hp, by walk_at "mine look", by walk_at "mine look", by walk_at "mine look", by walk_at "mine look"⟩
      · (rename Fr _ _ _ _ => kF'); (rename News _ _ _ _ => kN')
        (rename (¬ (0 < (f : Int))) => hf0)
        have hf1 : ¬ 0 < f := by omega
        exact Turn.mk' kF' kN' ⟨_, _, _, rfl, by rw [hpad, if_neg hf1]; exact hF, hG, by walk_at "mine look", by walk_at "mine look", by walk_at "mine look", by walk_at "mine look"⟩
    clear kF kN m1 m2 m3 m9 hG hF hoff
    rintro h0 tk0 m nw0 kF kN ⟨fs', own', n2', rfl, hF, hG, m1, m2, m3, m9⟩
    (try k_fold)
    -- fmt = ' '.join(texts)
    have hjoin := join_sp ws
    have hjl : ((ws.map wtext).map (·.length)).sum + (ws.map wtext).length ≤ 1048576 := by
      have := wtexts_len ws fun p hp => (hok p hp).2
      rw [List.length_map]; omega
    refine cut_stmt (h₀ := s.heap) (L := L') (fun m nw => nw = (O2, listOf (fs'.map Value.ref).toArray n2') :: (O1, listOf (gs.map Value.ref).toArray n1) :: own' ∧ (∃ t, m (PySem.Str.ofString "fmt") = some (.str (RS.tx (fmtL (spaced ws))) t)) ∧ MR m (PySem.Str.ofString "groups") O1 ∧ MR m (PySem.Str.ofString "full") O2 ∧ MR m (PySem.Str.ofString "script") sl) ?_ ?_
    · walk_at "mine go"
      (rename Fr _ _ _ _ => kF'); (rename News _ _ _ _ => kN')
      exact Turn.mk' kF' (News.drop1 kN') ⟨rfl, ⟨_, by walk_at "mine look"⟩, by walk_at "mine look", by walk_at "mine look", by walk_at "mine look"⟩
    clear kF kN m1 m2 m3 m9 hjoin hjl hts
    rintro h0 tk0 m nw0 kF kN ⟨rfl, ⟨tf, mf⟩, m1, m2, m9⟩
    (try k_fold)
    obtain ⟨pts, hpts⟩ : ∃ z, padU fits = z := ⟨_, rfl⟩
    rw [hpts] at hF
    have hpl : pts.length ≤ 4 := by
      rw [← hpts, hpad]
      split
      · rw [List.length_append]; show _ + 1 ≤ 4; omega
      · omega
    have hP := full_items hok
    rw [hfits, hpts] at hP
    have hjl : ((pts.map fun it => wtext (it, true)).map (·.length)).sum + (pts.map fun it => wtext (it, true)).length ≤ 1048576 := by
      have := wts_len true pts fun it hit => (hP it hit).2.2.1
      omega
    have hjoin := join_cat pts true
    -- whole = ''.join([..]) + '>'
    refine cut_stmt (h₀ := s.heap) (L := L') (fun m nw => nw = (O2, listOf (fs'.map Value.ref).toArray n2') :: (O1, listOf (gs.map Value.ref).toArray n1) :: own' ∧ (∃ t, m (PySem.Str.ofString "whole") = some (.str (RS.tx (fmtL (pts.map fun it => ⟨it, true, false⟩) ++ [62])) t)) ∧ (∃ t, m (PySem.Str.ofString "fmt") = some (.str (RS.tx (fmtL (spaced ws))) t)) ∧ MR m (PySem.Str.ofString "groups") O1 ∧ MR m (PySem.Str.ofString "full") O2 ∧ MR m (PySem.Str.ofString "script") sl) ?_ ?_
    · walk_at "mine go"
      refine comp_pairs (cl := []) (fun it y => ∃ t, y = .str (wtext (it, true)) t) (Room.hhd H) kF kN (.head _) hF (fun p hp => .tail _ (.tail _ hp)) (by omega) (fun Q hq => nameX_L kF m2 hq) (by with_unfolding_all rfl) (by decide) (by rfl) (by decide) (by rfl) (by rfl) ?_ ?_
      · intro it t u I C D oI oC ys m₂ h2 tk2 hit F2 N2 hC mk mw
        have hw80 := (hP it hit).2.2.1
        walk_at "mine go"
        (rename Fr _ _ _ _ => kF'); (rename News _ _ _ _ => kN')
        exact ⟨_, _, rfl, kF', kN', _, val_str (wtext_t it.k it.W)⟩
      intro D2 ys h2 tk2 F2 N2 hne hI2
      have hI3 := items_strs hI2
      have hfl9 : (fmtL (pts.map fun it => ⟨it, true, false⟩)).length ≤ 500 := by
        have := fmtL_len (pts.map fun it => (⟨it, true, false⟩ : Fm)) fun f hf => by
          obtain ⟨it, hit, rfl⟩ := List.mem_map.mp hf
          have := (hP it hit).2.2.1
          show it.W ≤ 100
          omega
        rw [List.length_map] at this
        show (SR.txs _).length ≤ 500
        omega
      walk_at "mine go"
      refine RS.add (tx_gt _) (by rw [RS.tx_len, List.length_append, sizeLine_eq]; show _ + 1 ≤ _; omega) ?_
      intro t8 k8
      walk_at "mine go"
      (rename Fr _ _ _ _ => kF'); (rename News _ _ _ _ => kN')
      exact Turn.mk' kF' (News.drop1 kN') ⟨rfl, ⟨_, by walk_at "mine look"⟩, ⟨_, by walk_at "mine look"⟩, by walk_at "mine look", by walk_at "mine look", by walk_at "mine look"⟩
    clear kF kN m1 m2 m9 mf hjoin hjl
    rintro h0 tk0 m nw0 kF kN ⟨rfl, ⟨tw, mw⟩, ⟨tf, mf⟩, m1, m2, m9⟩
    (try k_fold)
    -- total = sum([g[1] for g in groups])
    refine cut_stmt (h₀ := s.heap) (L := L') (fun m nw => nw = (O2, listOf (fs'.map Value.ref).toArray n2') :: (O1, listOf (gs.map Value.ref).toArray n1) :: own' ∧ (∃ t, m (PySem.Str.ofString "total") = some (.int ((totW its : Nat) : Int) t)) ∧ (∃ t, m (PySem.Str.ofString "whole") = some (.str (RS.tx (fmtL (pts.map fun it => ⟨it, true, false⟩) ++ [62])) t)) ∧ (∃ t, m (PySem.Str.ofString "fmt") = some (.str (RS.tx (fmtL (spaced ws))) t)) ∧ MR m (PySem.Str.ofString "groups") O1 ∧ MR m (PySem.Str.ofString "full") O2 ∧ MR m (PySem.Str.ofString "script") sl) ?_ ?_
    · walk_at "mine go"
      refine comp_widths (Room.hhd H) kF kN (.tail _ (.head _)) hG (fun p hp => .tail _ (.tail _ hp)) (by omega) (fun Q hq => nameX_L kF m1 hq) ?_
      intro D2 ys h2 tk2 F2 N2 hne hI2
      walk_at "mine go"
      (rename Fr _ _ _ _ => kF'); (rename News _ _ _ _ => kN')
      exact Turn.mk' kF' (News.drop1 kN') ⟨rfl, ⟨_, by rw [← sum_W]; walk_at "mine look"⟩, ⟨_, by walk_at "mine look"⟩, ⟨_, by walk_at "mine look"⟩, by walk_at "mine look", by walk_at "mine look", by walk_at "mine look"⟩
    clear kF kN m1 m2 m9 mf mw
    rintro h0 tk0 m nw0 kF kN ⟨rfl, ⟨tt, mt⟩, ⟨tw, mw⟩, ⟨tf, mf⟩, m1, m2, m9⟩
    (try k_fold)
    -- room = sum([g[1] for g in full]) // 8
    obtain ⟨rm, hrm⟩ : ∃ z : Nat, z = totW pts / 8 := ⟨_, rfl⟩
    have hq8 : ((pts.map fun it => (it.W : Int)).sum).fdiv 8 = (rm : Int) := by
      rw [sum_W, hrm, Int.fdiv_eq_ediv_of_nonneg _ (by decide)]; rfl
    refine cut_stmt (h₀ := s.heap) (L := L') (fun m nw => nw = (O2, listOf (fs'.map Value.ref).toArray n2') :: (O1, listOf (gs.map Value.ref).toArray n1) :: own' ∧ (∃ t, m (PySem.Str.ofString "room") = some (.int (rm : Int) t)) ∧ (∃ t, m (PySem.Str.ofString "total") = some (.int ((totW its : Nat) : Int) t)) ∧ (∃ t, m (PySem.Str.ofString "whole") = some (.str (RS.tx (fmtL (pts.map fun it => ⟨it, true, false⟩) ++ [62])) t)) ∧ (∃ t, m (PySem.Str.ofString "fmt") = some (.str (RS.tx (fmtL (spaced ws))) t)) ∧ MR m (PySem.Str.ofString "groups") O1 ∧ MR m (PySem.Str.ofString "full") O2 ∧ MR m (PySem.Str.ofString "script") sl) ?_ ?_
    · walk_at "mine go"
      refine comp_widths (Room.hhd H) kF kN (.head _) hF (fun p hp => .tail _ (.tail _ hp)) (by omega) (fun Q hq => nameX_L kF m2 hq) ?_
      intro D2 ys h2 tk2 F2 N2 hne hI2
      walk_at "mine go"
      (rename Fr _ _ _ _ => kF'); (rename News _ _ _ _ => kN')
      exact Turn.mk' kF' (News.drop1 kN') ⟨rfl, ⟨_, by walk_at "mine look"⟩, ⟨_, by walk_at "mine look"⟩, ⟨_, by walk_at "mine look"⟩, ⟨_, by walk_at "mine look"⟩, by walk_at "mine look", by walk_at "mine look", by walk_at "mine look"⟩
    clear kF kN m1 m2 m9 mf mw mt
    rintro h0 tk0 m nw0 kF kN ⟨rfl, ⟨tr, mr⟩, ⟨tt, mt⟩, ⟨tw, mw⟩, ⟨tf, mf⟩, m1, m2, m9⟩
    (try k_fold)
    -- rest = -total mod 8
    obtain ⟨e0, e8, -⟩ := lfmod8 (totW its)
    obtain ⟨e, he⟩ := Int.eq_ofNat_of_zero_le e0
    have hpad2 := padU_f he
    refine cut_stmt (h₀ := s.heap) (L := L') (fun m nw => nw = (O2, listOf (fs'.map Value.ref).toArray n2') :: (O1, listOf (gs.map Value.ref).toArray n1) :: own' ∧ (∃ t, m (PySem.Str.ofString "rest") = some (.int (e : Int) t)) ∧ (∃ t, m (PySem.Str.ofString "room") = some (.int (rm : Int) t)) ∧ (∃ t, m (PySem.Str.ofString "total") = some (.int ((totW its : Nat) : Int) t)) ∧ (∃ t, m (PySem.Str.ofString "whole") = some (.str (RS.tx (fmtL (pts.map fun it => ⟨it, true, false⟩) ++ [62])) t)) ∧ (∃ t, m (PySem.Str.ofString "fmt") = some (.str (RS.tx (fmtL (spaced ws))) t)) ∧ MR m (PySem.Str.ofString "groups") O1 ∧ MR m (PySem.Str.ofString "full") O2 ∧ MR m (PySem.Str.ofString "script") sl) ?_ ?_
    · walk_at "mine go"
      (rename Fr _ _ _ _ => kF'); (rename News _ _ _ _ => kN')
      exact Turn.mk' kF' kN' ⟨rfl, ⟨_, by rw [← he]; walk_at "mine look"⟩, ⟨_, by walk_at "mine look"⟩, ⟨_, by walk_at "mine look"⟩, ⟨_, by walk_at "mine look"⟩, ⟨_, by walk_at "mine look"⟩, by walk_at "mine look", by walk_at "mine look", by walk_at "mine look"⟩
    clear kF kN m1 m2 m9 mf mw mt mr
    rintro h0 tk0 m nw0 kF kN ⟨rfl, ⟨te, me⟩, ⟨tr, mr⟩, ⟨tt, mt⟩, ⟨tw, mw⟩, ⟨tf, mf⟩, m1, m2, m9⟩
    (try k_fold)
    have hQ : ∀ it ∈ its, ItOk it ∧ it.W ≤ 80 := by
      intro it hit
      rw [← hits] at hit
      obtain ⟨p, hp, rfl⟩ := List.mem_map.mp hit
      exact hok p hp
    obtain ⟨bts, hbts⟩ : ∃ z, its.map bareIt = z := ⟨_, rfl⟩
    have hbl : bts.length ≤ 3 := by rw [← hbts, List.length_map]; exact hil
    have hb80 : ∀ it ∈ bts, it.W ≤ 80 := by
      intro it hit
      rw [← hbts] at hit
      obtain ⟨p, hp, rfl⟩ := List.mem_map.mp hit
      exact (hQ p hp).2
    have hjoin := join_cat bts false
    have hjl : ((bts.map fun it => wtext (it, false)).map (·.length)).sum + (bts.map fun it => wtext (it, false)).length ≤ 1048576 := by
      have := wts_len false bts hb80
      omega
    -- bare = ''.join([..])
    refine cut_stmt (h₀ := s.heap) (L := L') (fun m nw => nw = (O2, listOf (fs'.map Value.ref).toArray n2') :: (O1, listOf (gs.map Value.ref).toArray n1) :: own' ∧ (∃ t, m (PySem.Str.ofString "bare") = some (.str (RS.tx (fmtL (bts.map fun it => ⟨it, false, false⟩))) t)) ∧ (∃ t, m (PySem.Str.ofString "rest") = some (.int (e : Int) t)) ∧ (∃ t, m (PySem.Str.ofString "room") = some (.int (rm : Int) t)) ∧ (∃ t, m (PySem.Str.ofString "total") = some (.int ((totW its : Nat) : Int) t)) ∧ (∃ t, m (PySem.Str.ofString "whole") = some (.str (RS.tx (fmtL (pts.map fun it => ⟨it, true, false⟩) ++ [62])) t)) ∧ (∃ t, m (PySem.Str.ofString "fmt") = some (.str (RS.tx (fmtL (spaced ws))) t)) ∧ MR m (PySem.Str.ofString "groups") O1 ∧ MR m (PySem.Str.ofString "full") O2 ∧ MR m (PySem.Str.ofString "script") sl) ?_ ?_
    · walk_at "mine go"
      refine comp_pairs (cl := []) (fun it y => ∃ t, y = .str (wtext (bareIt it, false)) t) (Room.hhd H) kF kN (.tail _ (.head _)) hG (fun p hp => .tail _ (.tail _ hp)) (by omega) (fun Q hq => nameX_L kF m1 hq) (by with_unfolding_all rfl) (by decide) (by rfl) (by decide) (by rfl) (by rfl) ?_ ?_
      · intro it t u I C D oI oC ys m₂ h2 tk2 hit F2 N2 hC mk mw
        have hw80 := (hQ it hit).2
        have hcin := bpP_in it.k
        walk_at "mine go"
        · (rename Fr _ _ _ _ => kF'); (rename News _ _ _ _ => kN'); (rename (_ == PySem.Str.ofString "t") = true => ht)
          exact ⟨_, _, rfl, kF', kN', _, val_str (bare_ok (.inl ⟨sign_t ht, rfl⟩))⟩
        · (rename Fr _ _ _ _ => kF'); (rename News _ _ _ _ => kN'); (rename (_ == PySem.Str.ofString "t") = false => ht); (rename it.k.bpP = true => hb)
          exact ⟨_, _, rfl, kF', kN', _, val_str (bare_ok (.inr (.inl ⟨sign_nt ht, hb, rfl⟩)))⟩
        · (rename Fr _ _ _ _ => kF'); (rename News _ _ _ _ => kN'); (rename (_ == PySem.Str.ofString "t") = false => ht); (rename it.k.bpP = false => hb)
          exact ⟨_, _, rfl, kF', kN', _, val_str (bare_ok (.inr (.inr ⟨sign_nt ht, hb, rfl⟩)))⟩
      intro D2 ys h2 tk2 F2 N2 hne hI2
      have hI3 := items_strs hI2
      rw [show its.map (fun it => wtext (bareIt it, false)) = bts.map fun it => wtext (it, false) from by rw [← hbts, List.map_map]; rfl] at hI3
      walk_at "mine go"
      (rename Fr _ _ _ _ => kF'); (rename News _ _ _ _ => kN')
      exact Turn.mk' kF' (News.drop1 kN') ⟨rfl, ⟨_, by walk_at "mine look"⟩, ⟨_, by walk_at "mine look"⟩, ⟨_, by walk_at "mine look"⟩, ⟨_, by walk_at "mine look"⟩, ⟨_, by walk_at "mine look"⟩, ⟨_, by walk_at "mine look"⟩, by walk_at "mine look", by walk_at "mine look", by walk_at "mine look"⟩
    clear kF kN m1 m2 m9 mf mw mt mr me hjoin hjl
    rintro h0 tk0 m nw0 kF kN ⟨rfl, ⟨tb, mb9⟩, ⟨te, me⟩, ⟨tr, mr⟩, ⟨tt, mt⟩, ⟨tw, mw⟩, ⟨tf, mf⟩, m1, m2, m9⟩
    (try k_fold)
    -- bare += 'u' + str(rest) if rest > 0 else ''
    refine cut_stmt (h₀ := s.heap) (L := L') (fun m nw => nw = (O2, listOf (fs'.map Value.ref).toArray n2') :: (O1, listOf (gs.map Value.ref).toArray n1) :: own' ∧ (∃ t, m (PySem.Str.ofString "bare") = some (.str (RS.tx (fmtL ((padU bts).map fun it => ⟨it, false, false⟩))) t)) ∧ (∃ t, m (PySem.Str.ofString "rest") = some (.int (e : Int) t)) ∧ (∃ t, m (PySem.Str.ofString "room") = some (.int (rm : Int) t)) ∧ (∃ t, m (PySem.Str.ofString "total") = some (.int ((totW its : Nat) : Int) t)) ∧ (∃ t, m (PySem.Str.ofString "whole") = some (.str (RS.tx (fmtL (pts.map fun it => ⟨it, true, false⟩) ++ [62])) t)) ∧ (∃ t, m (PySem.Str.ofString "fmt") = some (.str (RS.tx (fmtL (spaced ws))) t)) ∧ MR m (PySem.Str.ofString "groups") O1 ∧ MR m (PySem.Str.ofString "full") O2 ∧ MR m (PySem.Str.ofString "script") sl) ?_ ?_
    · have hfl9 : (fmtL (bts.map fun it => ⟨it, false, false⟩)).length ≤ 100 := by
        have := fmtL_len (bts.map fun it => (⟨it, false, false⟩ : Fm)) fun f hf => by
          obtain ⟨it, hit, rfl⟩ := List.mem_map.mp hf
          have := hb80 it hit
          show it.W ≤ 100
          omega
        rw [List.length_map] at this
        show (SR.txs _).length ≤ 100
        omega
      have he2 : (-((totW bts : Nat) : Int)).fmod 8 = (e : Int) := by rw [← hbts, bare_tot]; exact he
      have hpad3 := padU_f he2
      have hde := digs_len e (by omega)
      walk_at "mine go"
      · (rename (0 < (e : Int)) => hf0)
        have hf1 : 0 < e := by omega
        refine RS.iadd (tx_rest _ _) (by rw [RS.tx_len, List.length_append, sizeLine_eq]; unfold Fm.tk SR.Tk.tx; simp only [List.length_append, List.length_cons, List.length_nil]; show _ + ([].length + ((digs e).length + [].length + 1)) ≤ _; simp only [List.length_nil]; omega) ?_
        intro t8 k8
        rw [← fmtL_snoc, show (bts.map fun it => (⟨it, false, false⟩ : Fm)) ++ [⟨⟨.u, e⟩, false, false⟩] = (padU bts).map fun it => ⟨it, false, false⟩ from by rw [hpad3, if_pos hf1, List.map_append]; rfl]
        walk_at "mine go"
        (rename Fr _ _ _ _ => kF'); (rename News _ _ _ _ => kN')
        exact Turn.mk' kF' kN' ⟨rfl, ⟨_, by walk_at "mine look"⟩, ⟨_, by walk_at "mine look"⟩, ⟨_, by walk_at "mine look"⟩, ⟨_, by walk_at "mine look"⟩, ⟨_, by walk_at "mine look"⟩, ⟨_, by walk_at "mine look"⟩, by walk_at "mine look", by walk_at "mine look", by walk_at "mine look"⟩
      · (rename (¬ (0 < (e : Int))) => hf0)
        have hf1 : ¬ 0 < e := by omega
        refine RS.iadd (tx_none _) (by rw [RS.tx_len, sizeLine_eq]; omega) ?_
        intro t8 k8
        rw [show padU bts = bts from by rw [hpad3, if_neg hf1]]
        walk_at "mine go"
        (rename Fr _ _ _ _ => kF'); (rename News _ _ _ _ => kN')
        exact Turn.mk' kF' kN' ⟨rfl, ⟨_, by walk_at "mine look"⟩, ⟨_, by walk_at "mine look"⟩, ⟨_, by walk_at "mine look"⟩, ⟨_, by walk_at "mine look"⟩, ⟨_, by walk_at "mine look"⟩, ⟨_, by walk_at "mine look"⟩, by walk_at "mine look", by walk_at "mine look", by walk_at "mine look"⟩
    clear kF kN m1 m2 m9 mf mw mt mr me mb9
    rintro h0 tk0 m nw0 kF kN ⟨rfl, ⟨tb, mb9⟩, ⟨te, me⟩, ⟨tr, mr⟩, ⟨tt, mt⟩, ⟨tw, mw⟩, ⟨tf, mf⟩, m1, m2, m9⟩
    (try k_fold)
    -- kinds = ['n' if kind in 'us' else kind for kind, width in full]
    refine cut_stmt (h₀ := s.heap) (L := L') (fun m nw => ∃ (K : Addr) (ks : List Value), nw = (K, PyProof.Rows.LCg.lst ks) :: (O2, listOf (fs'.map Value.ref).toArray n2') :: (O1, listOf (gs.map Value.ref).toArray n1) :: own' ∧ (∀ p ∈ (O2, listOf (fs'.map Value.ref).toArray n2') :: (O1, listOf (gs.map Value.ref).toArray n1) :: own', @Ne Nat p.1 K) ∧ StrsAre ks (pts.map fun it => kindT it.k) ∧ MR m (PySem.Str.ofString "kinds") K ∧ (∃ t, m (PySem.Str.ofString "bare") = some (.str (RS.tx (fmtL ((padU bts).map fun it => ⟨it, false, false⟩))) t)) ∧ (∃ t, m (PySem.Str.ofString "rest") = some (.int (e : Int) t)) ∧ (∃ t, m (PySem.Str.ofString "room") = some (.int (rm : Int) t)) ∧ (∃ t, m (PySem.Str.ofString "total") = some (.int ((totW its : Nat) : Int) t)) ∧ (∃ t, m (PySem.Str.ofString "whole") = some (.str (RS.tx (fmtL (pts.map fun it => ⟨it, true, false⟩) ++ [62])) t)) ∧ (∃ t, m (PySem.Str.ofString "fmt") = some (.str (RS.tx (fmtL (spaced ws))) t)) ∧ MR m (PySem.Str.ofString "groups") O1 ∧ MR m (PySem.Str.ofString "full") O2 ∧ MR m (PySem.Str.ofString "script") sl) ?_ ?_
    · refine asn_pairs (cl := []) (fun it y => ∃ t, y = .str (kindT it.k) t) (Room.hhd H) kF kN (.head _) hF (fun p hp => .tail _ (.tail _ hp)) (by omega) (fun Q hq => nameX_L kF m2 hq) rfl (by with_unfolding_all rfl) (by rfl) (by rfl) (by with_unfolding_all rfl) (by decide) (by rfl) (by decide) (by rfl) (by rfl) ?_ ?_
      · intro it t u I C D oI oC ys m₂ h2 tk2 hit F2 N2 hC mk mw
        have hcin := us_in it.k
        walk_at "mine go"
        · (rename Fr _ _ _ _ => kF'); (rename News _ _ _ _ => kN'); (rename it.k.usB = true => hb)
          exact ⟨_, _, rfl, kF', kN', _, val_str (kindT_1 hb)⟩
        · (rename Fr _ _ _ _ => kF'); (rename News _ _ _ _ => kN'); (rename it.k.usB = false => hb)
          exact ⟨_, _, rfl, kF', kN', _, val_str (kindT_2 hb)⟩
      intro D2 ys h2 tk2 F2 N2 hne hI2
      exact Turn.mk' F2 N2 ⟨D2, ys, rfl, hne, items_strs hI2, by walk_at "mine look", ⟨_, by walk_at "mine look"⟩, ⟨_, by walk_at "mine look"⟩, ⟨_, by walk_at "mine look"⟩, ⟨_, by walk_at "mine look"⟩, ⟨_, by walk_at "mine look"⟩, ⟨_, by walk_at "mine look"⟩, by walk_at "mine look", by walk_at "mine look", by walk_at "mine look"⟩
    clear kF kN m1 m2 m9 mf mw mt mr me mb9
    rintro h0 tk0 m nw0 kF kN ⟨K, ks, rfl, hneK, hks, mK, ⟨tb, mb9⟩, ⟨te, me⟩, ⟨tr, mr⟩, ⟨tt, mt⟩, ⟨tw, mw⟩, ⟨tf, mf⟩, m1, m2, m9⟩
    (try k_fold)
    -- sized = [(width + 7) // 8 for kind, width in full if kind == 'r']
    refine cut_stmt (h₀ := s.heap) (L := L') (fun m nw => ∃ (Z : Addr) (zz : List Value), nw = (Z, PyProof.Rows.LCg.lst zz) :: (K, PyProof.Rows.LCg.lst ks) :: (O2, listOf (fs'.map Value.ref).toArray n2') :: (O1, listOf (gs.map Value.ref).toArray n1) :: own' ∧ (∀ p ∈ (K, PyProof.Rows.LCg.lst ks) :: (O2, listOf (fs'.map Value.ref).toArray n2') :: (O1, listOf (gs.map Value.ref).toArray n1) :: own', @Ne Nat p.1 Z) ∧ IntsAre zz ((pts.filter fun it => it.k.rB).map fun it => (((it.W + 7) / 8 : Nat) : Int)) ∧ MR m (PySem.Str.ofString "sized") Z ∧ MR m (PySem.Str.ofString "kinds") K ∧ (∃ t, m (PySem.Str.ofString "bare") = some (.str (RS.tx (fmtL ((padU bts).map fun it => ⟨it, false, false⟩))) t)) ∧ (∃ t, m (PySem.Str.ofString "rest") = some (.int (e : Int) t)) ∧ (∃ t, m (PySem.Str.ofString "room") = some (.int (rm : Int) t)) ∧ (∃ t, m (PySem.Str.ofString "total") = some (.int ((totW its : Nat) : Int) t)) ∧ (∃ t, m (PySem.Str.ofString "whole") = some (.str (RS.tx (fmtL (pts.map fun it => ⟨it, true, false⟩) ++ [62])) t)) ∧ (∃ t, m (PySem.Str.ofString "fmt") = some (.str (RS.tx (fmtL (spaced ws))) t)) ∧ MR m (PySem.Str.ofString "groups") O1 ∧ MR m (PySem.Str.ofString "full") O2 ∧ MR m (PySem.Str.ofString "script") sl) ?_ ?_
    · refine asn_pairs_if (cl := []) (fun it => it.k.rB) (fun it y => ∃ t, y = .int (((it.W + 7) / 8 : Nat) : Int) t) (Room.hhd H) kF kN (.tail _ (.head _)) hF (fun p hp => .tail _ (.tail _ (.tail _ hp))) (by omega) (fun Q hq => nameX_L kF m2 hq) rfl (by with_unfolding_all rfl) (by rfl) (by rfl) (by with_unfolding_all rfl) (by decide) (by rfl) (by decide) (by rfl) (by rfl) ?_ ?_ ?_
      · intro it t u I C D oI oC ys m₂ h2 tk2 hit F2 N2 hC mk mw
        walk_at "mine go"
        exact ⟨_, _, rfl, F2, N2, sign_r it.k⟩
      · intro it t u I C D oI oC ys m₂ h2 tk2 hit hr F2 N2 hC mk mw
        have hq : ((it.W : Int) + 7).fdiv 8 = (((it.W + 7) / 8 : Nat) : Int) := by rw [Int.fdiv_eq_ediv_of_nonneg _ (by decide)]; omega
        walk_at "mine go"
        exact ⟨_, _, rfl, F2, N2, _, rfl⟩
      intro D2 ys h2 tk2 F2 N2 hne hI2
      exact Turn.mk' F2 N2 ⟨D2, ys, rfl, hne, items_ints hI2, by walk_at "mine look", by walk_at "mine look", ⟨_, by walk_at "mine look"⟩, ⟨_, by walk_at "mine look"⟩, ⟨_, by walk_at "mine look"⟩, ⟨_, by walk_at "mine look"⟩, ⟨_, by walk_at "mine look"⟩, ⟨_, by walk_at "mine look"⟩, by walk_at "mine look", by walk_at "mine look", by walk_at "mine look"⟩
    clear kF kN m1 m2 m9 mf mw mt mr me mb9 mK
    rintro h0 tk0 m nw0 kF kN ⟨Z, zz, rfl, hneZ, hzz, mZ, mK, ⟨tb, mb9⟩, ⟨te, me⟩, ⟨tr, mr⟩, ⟨tt, mt⟩, ⟨tw, mw⟩, ⟨tf, mf⟩, m1, m2, m9⟩
    (try k_fold)
    -- draws = script[3:6] + [sum(script[:3]), 1]
    refine cut_stmt (h₀ := s.heap) (L := L') (fun m nw => ∃ (Y : Addr) (dv : List Value) (ds : List Int) (nY : Nat), nw = (Y, listOf dv.toArray nY) :: (Z, PyProof.Rows.LCg.lst zz) :: (K, PyProof.Rows.LCg.lst ks) :: (O2, listOf (fs'.map Value.ref).toArray n2') :: (O1, listOf (gs.map Value.ref).toArray n1) :: own' ∧ (∀ p ∈ (Z, PyProof.Rows.LCg.lst zz) :: (K, PyProof.Rows.LCg.lst ks) :: (O2, listOf (fs'.map Value.ref).toArray n2') :: (O1, listOf (gs.map Value.ref).toArray n1) :: own', @Ne Nat p.1 Y) ∧ IntsAre dv ds ∧ ds.length ≤ 5 ∧ MR m (PySem.Str.ofString "draws") Y ∧ MR m (PySem.Str.ofString "sized") Z ∧ MR m (PySem.Str.ofString "kinds") K ∧ (∃ t, m (PySem.Str.ofString "bare") = some (.str (RS.tx (fmtL ((padU bts).map fun it => ⟨it, false, false⟩))) t)) ∧ (∃ t, m (PySem.Str.ofString "rest") = some (.int (e : Int) t)) ∧ (∃ t, m (PySem.Str.ofString "room") = some (.int (rm : Int) t)) ∧ (∃ t, m (PySem.Str.ofString "total") = some (.int ((totW its : Nat) : Int) t)) ∧ (∃ t, m (PySem.Str.ofString "whole") = some (.str (RS.tx (fmtL (pts.map fun it => ⟨it, true, false⟩) ++ [62])) t)) ∧ (∃ t, m (PySem.Str.ofString "fmt") = some (.str (RS.tx (fmtL (spaced ws))) t)) ∧ MR m (PySem.Str.ofString "groups") O1 ∧ MR m (PySem.Str.ofString "full") O2) ?_ ?_
    · walk_at "mine go"
      (rename Fr _ _ _ _ => kF'); (rename News _ _ _ _ => kN'); (rename IntsAre _ _ => hI5)
      rename_i Y w5 h5 l1 h6
      exact Turn.mk' kF' (News.cut2 (News.cut2 (News.cut2 kN'))) ⟨Y, _, _, _, rfl, (fun p hp => Nat.ne_of_lt (allLt_mem ((Z, PyProof.Rows.LCg.lst zz) :: (K, PyProof.Rows.LCg.lst ks) :: (O2, listOf (fs'.map Value.ref).toArray n2') :: (O1, listOf (gs.map Value.ref).toArray n1) :: own') l1.2.2.2 p hp)), hI5, by rw [List.length_append, List.length_take, List.length_drop]; show _ + 2 ≤ 5; omega, by walk_at "mine look", by walk_at "mine look", by walk_at "mine look", ⟨_, by walk_at "mine look"⟩, ⟨_, by walk_at "mine look"⟩, ⟨_, by walk_at "mine look"⟩, ⟨_, by walk_at "mine look"⟩, ⟨_, by walk_at "mine look"⟩, ⟨_, by walk_at "mine look"⟩, by walk_at "mine look", by walk_at "mine look"⟩
    clear kF kN m1 m2 m9 mf mw mt mr me mb9 mK mZ
    rintro h0 tk0 m nw0 kF kN ⟨Y, dv, ds, nY, rfl, hneY, hds, hd5, mY, mZ, mK, ⟨tb, mb9⟩, ⟨te, me⟩, ⟨tr, mr⟩, ⟨tt, mt⟩, ⟨tw, mw⟩, ⟨tf, mf⟩, m1, m2⟩
    (try k_fold)
    -- ranks = [], sizes = [], others = [], rows = []
    have hKm : (K, PyProof.Rows.LCg.lst ks) ∈ (Y, listOf dv.toArray nY) :: (Z, PyProof.Rows.LCg.lst zz) :: (K, PyProof.Rows.LCg.lst ks) :: (O2, listOf (fs'.map Value.ref).toArray n2') :: (O1, listOf (gs.map Value.ref).toArray n1) :: own' := .tail _ (.tail _ (.head _))
    have hZm : (Z, PyProof.Rows.LCg.lst zz) ∈ (Y, listOf dv.toArray nY) :: (Z, PyProof.Rows.LCg.lst zz) :: (K, PyProof.Rows.LCg.lst ks) :: (O2, listOf (fs'.map Value.ref).toArray n2') :: (O1, listOf (gs.map Value.ref).toArray n1) :: own' := .tail _ (.head _)
    have hO1m : (O1, listOf (gs.map Value.ref).toArray n1) ∈ (Y, listOf dv.toArray nY) :: (Z, PyProof.Rows.LCg.lst zz) :: (K, PyProof.Rows.LCg.lst ks) :: (O2, listOf (fs'.map Value.ref).toArray n2') :: (O1, listOf (gs.map Value.ref).toArray n1) :: own' := .tail _ (.tail _ (.tail _ (.tail _ (.head _))))
    have hYm : (Y, listOf dv.toArray nY) ∈ (Y, listOf dv.toArray nY) :: (Z, PyProof.Rows.LCg.lst zz) :: (K, PyProof.Rows.LCg.lst ks) :: (O2, listOf (fs'.map Value.ref).toArray n2') :: (O1, listOf (gs.map Value.ref).toArray n1) :: own' := .head _
    have hGb : TupsAt ((Y, listOf dv.toArray nY) :: (Z, PyProof.Rows.LCg.lst zz) :: (K, PyProof.Rows.LCg.lst ks) :: (O2, listOf (fs'.map Value.ref).toArray n2') :: (O1, listOf (gs.map Value.ref).toArray n1) :: own') gs its := hG.mono fun p hp => .tail _ (.tail _ (.tail _ (.tail _ (.tail _ hp))))
    generalize (Y, listOf dv.toArray nY) :: (Z, PyProof.Rows.LCg.lst zz) :: (K, PyProof.Rows.LCg.lst ks) :: (O2, listOf (fs'.map Value.ref).toArray n2') :: (O1, listOf (gs.map Value.ref).toArray n1) :: own' = base at kN hKm hZm hO1m hYm hGb
    clear hneY hneZ hneK hG hF m2
    walk_at "mine go"
    refine for_stmt ?_ (fun _ => rfl)
    walk_at "mine go"
    (rename Fr _ _ _ _ => kF); (rename News _ _ _ _ => kN)
    rename_i Rk h1 l1 h2 tk1 Sz h3 l2 h4 tk2 Ot h5 l3 h6 Rw h7 l4 h8
    obtain ⟨bareT, hbareT⟩ : ∃ x, x = RS.tx (fmtL ((padU bts).map fun it => ⟨it, false, false⟩)) := ⟨_, rfl⟩
    obtain ⟨wholeT, hwholeT⟩ : ∃ x, x = RS.tx (fmtL (pts.map fun it => ⟨it, true, false⟩) ++ [62]) := ⟨_, rfl⟩
    obtain ⟨fmtT, hfmtT⟩ : ∃ x, x = RS.tx (fmtL (spaced ws)) := ⟨_, rfl⟩
    obtain ⟨pd, hpd⟩ : ∃ x, x = 8 * ((totW its + 7) / 8) - totW its := ⟨_, rfl⟩
    have hLi : 1 ≤ its.length ∧ its.length ≤ 3 := ⟨by rw [← hits, List.length_map]; exact hw3.1, hil⟩
    obtain ⟨hF1, hF2, hF3, hF4, hF5, hF6, hF7⟩ := fmt_facts hits hw3 hok
    rw [← hfmtT] at hF1
    have heb : (-((totW bts : Nat) : Int)).fmod 8 = (e : Int) := by rw [← hbts, bare_tot]; exact he
    have hbok : ∀ it ∈ bts, 1 ≤ it.W ∧ it.W ≤ 80 := by rw [← hbts]; exact bare_facts hQ
    obtain ⟨hbl2, hbok2⟩ := padU_facts heb ⟨by rw [← hbts, List.length_map]; exact hLi.1, hbl⟩ hbok
    obtain ⟨hB2, hB3, hB4, hB5⟩ := fm_facts false hbl2 hbok2
    have hB1 : bareT = RS.tx (fmtL ((padU bts).map fun it => ⟨it, false, false⟩) ++ if false = true then [62] else []) := by rw [hbareT, if_neg Bool.false_ne_true, List.append_nil]
    have hpl1 : 1 ≤ pts.length := by
      have := (padU_f hf).symm.trans hpts
      rw [← this]
      have h9 : fits.length = ws.length := by rw [← hfits, List.length_map]
      split
      · rw [List.length_append, h9]; omega
      · rw [h9]; exact hw3.1
    obtain ⟨hW2, hW3, hW4, hW5⟩ := fm_facts true ⟨hpl1, hpl⟩ fun it h => ⟨(hP it h).2.1, (hP it h).2.2.1⟩
    have hr8 : totW pts = 8 * rm := by
      have := (padU_tot fits).1
      rw [hpts] at this
      omega
    have hr40 : rm ≤ 40 := by
      have := totW_le pts fun it h => (hP it h).2.2.1
      omega
    have hp300 : totW pts ≤ 300 := by
      have h1 := (padU_tot fits).2.2
      have h2 := totW_le fits fun it h => (hP it (by rw [← hpts, padU_f hf]; split; exact List.mem_append_left _ h; exact h)).2.2.1
      rw [hpts] at h1
      omega
    have hp1 : 1 ≤ totW pts := totW_ge hpl1 fun it h => (hP it h).2.1
    have hW1 : wholeT = RS.tx (fmtL (pts.map fun it => ⟨it, true, false⟩) ++ if true = true then [62] else []) := by rw [hwholeT, if_pos rfl]
    obtain ⟨m8, kF8, nm⟩ : ∃ m8, Fr s.heap L' h8 m8 ∧ LawNm bareT wholeT fmtT (e : Int) (rm : Int) ((totW its : Nat) : Int) K Z O1 Rk Sz Ot Rw m8 := ⟨_, kF, ⟨_, by rw [hbareT]; walk_at "mine look"⟩, ⟨_, by rw [hwholeT]; walk_at "mine look"⟩, ⟨_, by rw [hfmtT]; walk_at "mine look"⟩, ⟨_, by walk_at "mine look"⟩, ⟨_, by walk_at "mine look"⟩, ⟨_, by walk_at "mine look"⟩, by walk_at "mine look", by walk_at "mine look", by walk_at "mine look", by walk_at "mine look", by walk_at "mine look", by walk_at "mine look", by walk_at "mine look"⟩
    clear kF mY mZ mK tb mb9 te me tr mr tt mt tw mw tf mf m1
    have hRw : @Ne Nat Rw Ot ∧ @Ne Nat Rw Sz ∧ @Ne Nat Rw Rk := ⟨Nat.ne_of_gt l4.1, Nat.ne_of_gt l4.2.1, Nat.ne_of_gt l4.2.2.1⟩
    have hOt : @Ne Nat Ot Sz ∧ @Ne Nat Ot Rk := ⟨Nat.ne_of_gt l3.1, Nat.ne_of_gt l3.2.1⟩
    have hSz : @Ne Nat Sz Rk := Nat.ne_of_gt l2.1
    have hoff : PySem.W.OwnOff base [Rw, Ot, Sz, Rk] := by
      intro p hp b hb
      simp only [List.mem_cons, List.not_mem_nil, or_false] at hb
      rcases hb with rfl | rfl | rfl | rfl
      · exact Nat.ne_of_lt (allLt_mem base l4.2.2.2 p hp)
      · exact Nat.ne_of_lt (allLt_mem base l3.2.2 p hp)
      · exact Nat.ne_of_lt (allLt_mem base l2.2 p hp)
      · exact Nat.ne_of_lt (l1 p hp)
    clear l1 l2 l3 l4
    refine for_itG (L := L') rfl (CM.iter_list (Room.hhd H) (News.isList kN (.tail _ (.tail _ (.tail _ (.tail _ hYm)))))) (fun I k m news => ∃ (rks oks : List Addr) (ss us : List Int) (sv wv : List Value) (own2 : List (Addr × Obj)) (n1 n2 n3 n4 : Nat), news = (Rw, listOf wv.toArray n4) :: (Ot, listOf (oks.map Value.ref).toArray n3) :: (Sz, listOf sv.toArray n2) :: (Rk, listOf (rks.map Value.ref).toArray n1) :: own2 ∧
        (∀ p ∈ base, p ∈ own2) ∧ PySem.W.OwnOff own2 [Rw, Ot, Sz, Rk] ∧ ss.length = k ∧ us.length = k ∧ IntsAre sv ss ∧ IntsAre wv us ∧ TabIn its pd own2 rks ss ∧ TabIn pts 0 own2 oks us ∧ LawNm bareT wholeT fmtT (e : Int) (rm : Int) ((totW its : Nat) : Int) K Z O1 Rk Sz Ot Rw m) kF8 kN
      (fun b hb => by rw [List.mem_singleton.mp hb]; exact .inr ⟨_, fun I i m news hJ => by obtain ⟨_, _, _, _, _, _, _, _, _, _, _, rfl, hs, _⟩ := hJ; exact .tail _ (.tail _ (.tail _ (.tail _ (hs _ hYm))))⟩)
      (fun I _ => ⟨[], [], [], [], [], [], base, _, _, _, _, rfl, (fun p hp => hp), hoff, rfl, rfl, .nil, .nil, TabIn.nil, TabIn.nil, nm⟩) ?_ ?_
    · clear kF8 kN nm hoff
      rintro I k v m news h tk gens oI hk hv ⟨rks, oks, ss, us, sv, wv, own2, n1, n2, n3, n4, rfl, hb2, hoff, hsl, hul0, hss, huu, hT1, hT2, nm⟩ hb kF kN hI
      (try k_fold)
      obtain ⟨y, ty, hy, rfl⟩ := ints_get hds hv
      have hk5 : k < 5 := by rw [hds.length] at hk; omega
      have hsub : ∀ p ∈ own2, p ∈ own2 := fun p hp => hp
      have hoff3 : PySem.W.OwnOff own2 [I, Rw, Ot, Sz, Rk] := by
        intro p hp b hb
        rcases List.mem_cons.mp hb with rfl | hb
        · exact hI p (.tail _ (.tail _ (.tail _ (.tail _ hp))))
        · exact hoff p hp b hb
      clear hv hy hoff
      walk_at "mine upto"
      (rename Fr _ _ _ _ => kF); (try (rename News _ _ _ _ => kN))
      -- values = _law_record(groups, y)
      refine cut_stmt (h₀ := s.heap) (L := L') (fun m nw => ∃ (V : Addr) (Ns : List Nat) (vs : List Value) (nV : Nat) (own3 : List (Addr × Obj)), nw = (I, oI) :: (Rw, listOf wv.toArray n4) :: (Ot, listOf (oks.map Value.ref).toArray n3) :: (Sz, listOf sv.toArray n2) :: (Rk, listOf (rks.map Value.ref).toArray n1) :: own3 ∧ ((∀ p ∈ own2, p ∈ own3) ∧ PySem.W.OwnOff own3 [I, Rw, Ot, Sz, Rk]) ∧ (V, listOf (List.toArray vs) nV) ∈ own3 ∧ Vals its Ns vs ∧ (∀ v ∈ vs, Plainv v ∧ TextOk v) ∧ MR m (PySem.Str.ofString "values") V ∧ (∃ t, m (PySem.Str.ofString "y") = some (.int y t)) ∧ LawNm bareT wholeT fmtT (e : Int) (rm : Int) ((totW its : Nat) : Int) K Z O1 Rk Sz Ot Rw m) ?_ ?_
      · obtain ⟨-, -, -, -, -, -, -, -, m1, -⟩ := id nm
        walk_at "mine go"
        refine use_specO kF kN (record_spec (by walk_at "mine bas") (by walk_at "mine room") O1 its y _ (TupsAt.groups kN (.tail _ (.tail _ (.tail _ (.tail _ (.tail _ (hb2 _ hO1m)))))) hGb (fun p hp => .tail _ (.tail _ (.tail _ (.tail _ (.tail _ (hb2 _ hp))))))) (fun it hi => (hQ it hi).1) (by omega)) ?_
        rintro v h2 tk2 own F2 N2 of2 ⟨V, Ns, vs, nV, rfl, hV, hVals, hpl2⟩
        (try dsimp only)
        (try k_fold)
        walk_at "mine go"
        (rename Fr _ _ _ _ => kF'); (rename News _ _ _ _ => kN')
        refine ⟨_, _, _, _, rfl, kF', kN', ?_⟩
        exact ⟨V, Ns, vs, _, own2 ++ own, rfl, ⟨fun p hp => List.mem_append_left _ hp, off5 hoff3 of2⟩, List.mem_append_right _ hV, hVals, hpl2, by walk_at "mine look", ⟨_, by walk_at "mine look"⟩, nm.n_y.n_values⟩
      clear kF kN nm
      rintro h0 tk0 m nw0 kF kN ⟨V, Ns, vs, nV, own3, rfl, ⟨hsub3, hoff4⟩, hV, hVals, hpl2, mV, ⟨ty2, my⟩, nm⟩
      (try dsimp only)
      (try k_fold)
      -- octets = pack_bitstruct(fmt, *values)
      have hv4 := vals_len hVals
      obtain ⟨X, hX⟩ : ∃ x, x = BT.toB ((totW its + 7) / 8) (catN its Ns 0 * 2 ^ (8 * ((totW its + 7) / 8) - totW its)) := ⟨_, rfl⟩
      refine cut_stmt (h₀ := s.heap) (L := L') (fun m nw => nw = (I, oI) :: (Rw, listOf wv.toArray n4) :: (Ot, listOf (oks.map Value.ref).toArray n3) :: (Sz, listOf sv.toArray n2) :: (Rk, listOf (rks.map Value.ref).toArray n1) :: own3 ∧ (∃ t, m (PySem.Str.ofString "octets") = some (.bytes X.toArray t)) ∧ MR m (PySem.Str.ofString "values") V ∧ (∃ t, m (PySem.Str.ofString "y") = some (.int y t)) ∧ LawNm bareT wholeT fmtT (e : Int) (rm : Int) ((totW its : Nat) : Int) K Z O1 Rk Sz Ot Rw m) ?_ ?_
      · obtain ⟨-, -, ⟨tf, mf⟩, -⟩ := id nm
        walk_at "mine go"
        (rename Fr _ _ _ _ => kF'); (rename News _ _ _ _ => kN')
        refine star_lst kF' kN' (News.isList kN' (.tail _ (.tail _ (.tail _ (.tail _ (.tail _ hV)))))) (by rw [List.size_toArray, sizeLine_eq]; omega) ?_
        clear kF' kN'
        intro h2 kF' kN'
        (try dsimp only)
        (try k_fold)
        walk_at "mine go"
        rw [List.append_nil]
        refine use_spec0 kF' kN' (pack_spec2 (by walk_at "mine bas") (by walk_at "mine room") (spaced ws) false hF1 _ hF2 hF3 hF4 its hF5 Ns vs hVals hF6 hF7 (by omega) (by omega)) ?_
        clear kF' kN'
        rintro v' h' tk' own F' N' ⟨t', rfl⟩
        rw [← hX]
        (try dsimp only)
        (try k_fold)
        walk_at "mine go"
        (rename Fr _ _ _ _ => kF'); (rename News _ _ _ _ => kN')
        refine ⟨_, _, _, _, rfl, kF', kN', ?_⟩
        exact ⟨rfl, ⟨_, by walk_at "mine look"⟩, by walk_at "mine look", ⟨_, by walk_at "mine look"⟩, nm.n_octets⟩
      clear kF kN nm mV my
      rintro h0 tk0 m nw0 kF kN ⟨rfl, ⟨to, mo⟩, mV, ⟨ty2, my⟩, nm⟩
      (try dsimp only)
      (try k_fold)
      -- if not isinstance(octets, bytes) or len(octets) != (total + 7) // 8: return False
      have hXl : X.length = (totW its + 7) / 8 := by rw [hX, BT.toB_length]
      have hq7 : (((totW its : Nat) : Int) + 7).fdiv 8 = (((totW its + 7) / 8 : Nat) : Int) := by rw [Int.fdiv_eq_ediv_of_nonneg _ (by decide)]; omega
      refine cut_stmt (h₀ := s.heap) (L := L') (fun m nw => nw = (I, oI) :: (Rw, listOf wv.toArray n4) :: (Ot, listOf (oks.map Value.ref).toArray n3) :: (Sz, listOf sv.toArray n2) :: (Rk, listOf (rks.map Value.ref).toArray n1) :: own3 ∧ (∃ t, m (PySem.Str.ofString "octets") = some (.bytes X.toArray t)) ∧ MR m (PySem.Str.ofString "values") V ∧ (∃ t, m (PySem.Str.ofString "y") = some (.int y t)) ∧ LawNm bareT wholeT fmtT (e : Int) (rm : Int) ((totW its : Nat) : Int) K Z O1 Rk Sz Ot Rw m) ?_ ?_
      · obtain ⟨-, -, -, -, -, ⟨tt, mt⟩, -⟩ := id nm
        walk_at "mine go"
        · (rename (((X.toArray.size : Nat) : Int) ≠ _) => hc)
          exact absurd (by rw [List.size_toArray, hXl]) hc
        · refine ⟨_, _, _, _, rfl, kF, kN, ?_⟩
          exact ⟨rfl, ⟨_, mo⟩, mV, ⟨_, my⟩, nm⟩
      clear kF kN nm mV my mo
      rintro h0 tk0 m nw0 kF kN ⟨rfl, ⟨to, mo⟩, mV, ⟨ty2, my⟩, nm⟩
      (try dsimp only)
      (try k_fold)
      clear hq7
            -- plain = _law_plain(groups, values) + ([0] if rest > 0 else [])
      obtain ⟨Nz, hNz⟩ : ∃ x, x = if 0 < e then Ns ++ [0] else Ns := ⟨_, rfl⟩
      refine cut_stmt (h₀ := s.heap) (L := L') (fun m nw => ∃ (Q : Addr) (ps : List Value) (nQ : Nat) (own4 : List (Addr × Obj)), nw = (I, oI) :: (Rw, listOf wv.toArray n4) :: (Ot, listOf (oks.map Value.ref).toArray n3) :: (Sz, listOf sv.toArray n2) :: (Rk, listOf (rks.map Value.ref).toArray n1) :: own4 ∧ (((∀ p ∈ own3, p ∈ own4) ∧ PySem.W.OwnOff own4 [I, Rw, Ot, Sz, Rk])) ∧ (Q, listOf (List.toArray ps) nQ) ∈ own4 ∧ URow (padU bts) Nz ps ∧ MR m (PySem.Str.ofString "plain") Q ∧ (∃ t, m (PySem.Str.ofString "octets") = some (.bytes X.toArray t)) ∧ MR m (PySem.Str.ofString "values") V ∧ (∃ t, m (PySem.Str.ofString "y") = some (.int y t)) ∧ LawNm bareT wholeT fmtT (e : Int) (rm : Int) ((totW its : Nat) : Int) K Z O1 Rk Sz Ot Rw m) ?_ ?_
      · obtain ⟨-, -, -, ⟨te, me⟩, -, -, -, -, m1, -⟩ := id nm
        walk_at "mine go"
        refine use_specO kF kN (plain_spec (by walk_at "mine bas") (by walk_at "mine room") O1 V its Ns vs (TupsAt.groups kN (.tail _ (.tail _ (.tail _ (.tail _ (.tail _ (hsub3 _ (hb2 _ hO1m))))))) hGb (fun p hp => .tail _ (.tail _ (.tail _ (.tail _ (.tail _ (hsub3 _ (hb2 _ hp)))))))) hVals hpl2 (News.isList kN (.tail _ (.tail _ (.tail _ (.tail _ (.tail _ hV)))))) (fun it hi => (hQ it hi).1) (by omega)) ?_
        rintro v h2 tk2 own F2 N2 of2 ⟨D, ps, nn, rfl, hD, hpsl, hps⟩
        replace N2 := News.dup N2 (List.mem_append_right _ hD)
        (try dsimp only)
        (try k_fold)
        walk_at "mine go"
        all_goals (rename News _ _ _ _ => kN')
        all_goals (rename Fr _ _ _ _ => kF')
        all_goals rename_i hc O1' h3 l1 D' h4 l2 h5
        all_goals replace kN' := News.sink5 (News.cut2 (News.cut2 kN'))
        all_goals refine ⟨_, _, _, _, rfl, kF', kN', ?_⟩
        · have hc' : 0 < e := by omega
          refine ⟨D', _, _, _, rfl, ⟨fun p hp => .tail _ (List.mem_append_left _ hp), off5n (off5 hoff4 of2) l2.2.2⟩, .head _, ?_, by walk_at "mine look", ⟨_, by walk_at "mine look"⟩, by walk_at "mine look", ⟨_, by walk_at "mine look"⟩, nm.n_plain⟩
          rw [hNz, if_pos hc', padU_f heb, if_pos hc', ← hbts]
          exact URow.snoc (plain_row hVals hpsl hps) (Nat.two_pow_pos _) ⟨_, rfl⟩
        · have hc' : ¬ 0 < e := by omega
          refine ⟨D', _, _, _, rfl, ⟨fun p hp => .tail _ (List.mem_append_left _ hp), off5n (off5 hoff4 of2) l2.2.2⟩, .head _, ?_, by walk_at "mine look", ⟨_, by walk_at "mine look"⟩, by walk_at "mine look", ⟨_, by walk_at "mine look"⟩, nm.n_plain⟩
          rw [hNz, if_neg hc', padU_f heb, if_neg hc', ← hbts, List.append_nil]
          exact plain_row hVals hpsl hps
      clear kF kN nm mV my mo
      rintro h0 tk0 m nw0 kF kN ⟨Q, ps, nQ, own4, rfl, ⟨hsub4, hoff5⟩, hQm, hps, mQ, ⟨to, mo⟩, mV, ⟨ty2, my⟩, nm⟩
      (try dsimp only)
      (try k_fold)
      replace hV := hsub4 _ hV
      -- told = unpack_bitstruct(bare, octets)
      have hRow : Row (padU bts) Nz X := by
        rw [hNz, hX, ← hbts]
        exact bare_row hVals.1 (fun j it N a b => (hVals.2.2 j it N a b).1) he hLi.2 fun it h => (hQ it h).2
      refine cut_stmtG (h₀ := s.heap) (L := L') (fun m nw => ∃ (U : Addr) (us' : List Value) (nU : Nat) (own5 : List (Addr × Obj)), nw = (I, oI) :: (Rw, listOf wv.toArray n4) :: (Ot, listOf (oks.map Value.ref).toArray n3) :: (Sz, listOf sv.toArray n2) :: (Rk, listOf (rks.map Value.ref).toArray n1) :: own5 ∧ (((∀ p ∈ own4, p ∈ own5) ∧ PySem.W.OwnOff own5 [I, Rw, Ot, Sz, Rk])) ∧ (U, ({ cls := .type "tuple", data := .seq (List.toArray us') nU } : Obj)) ∈ own5 ∧ URow (padU bts) Nz us' ∧ MR m (PySem.Str.ofString "told") U ∧ MR m (PySem.Str.ofString "plain") Q ∧ (∃ t, m (PySem.Str.ofString "octets") = some (.bytes X.toArray t)) ∧ MR m (PySem.Str.ofString "values") V ∧ (∃ t, m (PySem.Str.ofString "y") = some (.int y t)) ∧ LawNm bareT wholeT fmtT (e : Int) (rm : Int) ((totW its : Nat) : Int) K Z O1 Rk Sz Ot Rw m) ?_ ?_
      · obtain ⟨⟨tb, mb⟩, -⟩ := id nm
        walk_at "mine go"
        refine use_specG kF kN (unpack_spec2 (by walk_at "mine bas") (by walk_at "mine room") _ false hB1 _ _ hB2 hB3 hB4 (padU bts) hB5 Nz X hRow) ?_
        rintro v h2 tk2 gs2 own F2 N2 of2 hg2 ⟨U, us', nU, rfl, hU, hul, hus⟩
        (try dsimp only)
        (try k_fold)
        walk_at "mine go"
        all_goals (rename News _ _ _ _ => kN')
        all_goals (rename Fr _ _ _ _ => kF')
        refine ⟨_, _, _, _, _, rfl, hg2, kF', kN', ?_⟩
        exact ⟨U, us', _, own4 ++ own, rfl, ⟨fun p hp => List.mem_append_left _ hp, off5 hoff5 of2⟩, List.mem_append_right _ hU, out_row hRow hul hus, by walk_at "mine look", by walk_at "mine look", ⟨_, by walk_at "mine look"⟩, by walk_at "mine look", ⟨_, by walk_at "mine look"⟩, nm.n_told⟩
      clear kF kN nm mV my mo mQ
      rintro h0 tk0 gs2 m nw0 hg2 kF kN ⟨U, us', nU, own5, rfl, ⟨hsub5, hoff6⟩, hUm, hus, mU, mQ, ⟨to, mo⟩, mV, ⟨ty2, my⟩, nm⟩
      (try dsimp only)
      (try k_fold)
      replace hV := hsub5 _ hV
      replace hQm := hsub5 _ hQm
      have hul := hus.len
      have hpl3 := hps.len
      -- if told != tuple(plain) or [..] != [..]: return False
      refine cut_stmt (h₀ := s.heap) (L := L') (fun m nw => nw = (I, oI) :: (Rw, listOf wv.toArray n4) :: (Ot, listOf (oks.map Value.ref).toArray n3) :: (Sz, listOf sv.toArray n2) :: (Rk, listOf (rks.map Value.ref).toArray n1) :: own5 ∧ (∃ t, m (PySem.Str.ofString "octets") = some (.bytes X.toArray t)) ∧ MR m (PySem.Str.ofString "values") V ∧ (∃ t, m (PySem.Str.ofString "y") = some (.int y t)) ∧ LawNm bareT wholeT fmtT (e : Int) (rm : Int) ((totW its : Nat) : Int) K Z O1 Rk Sz Ot Rw m) ?_ ?_
      · replace kN := News.dup (News.dup kN (.tail _ (.tail _ (.tail _ (.tail _ (.tail _ hQm)))))) (.tail _ (.tail _ (.tail _ (.tail _ (.tail _ (.tail _ hUm))))))
        walk_at "mine go"
        all_goals (rename News _ _ _ _ => kN')
        all_goals (rename Fr _ _ _ _ => kF')
        refine TL.tups_ne_same (isTup_of kN' (.tail _ (.head _))) (isTup_of kN' (.head _)) (by omega) (by have h9 := H.hu; show A.units + 3 < cLine; omega) (hus.same hps) _ _ _ _ ?_
        walk_at "mine go"
        refine comp_vals (cl := []) (vs := us') (fun v y => ∃ t, y = .str (kindS v) t) kF' kN' (.tail _ (.head _)) (CM.iter_tup (Room.hhd H) (isTup_of kN' (.tail _ (.head _)))) (by omega) (fun Q hq => nameX_L kF' mU hq) (by with_unfolding_all rfl) (by decide) (by rfl) (by decide) (by rfl) ?_ ?_
        · intro v I C D oI oC ys m₂ h2 tk2 hv F2 N2 hC mk
          have hvp := (hus.plain v hv).1
          walk_at "mine go"
          refine use_spec0 F2 N2 (kind_spec (by walk_at "mine bas") (by walk_at "mine room") v hvp) ?_
          clear F2 N2
          rintro _ h3 tk3 own F2 N2 ⟨t3, rfl⟩
          (try dsimp only)
          (try k_fold)
          walk_at "mine go"
          exact ⟨_, _, rfl, F2, N2, _, rfl⟩
        intro D2 ys h2 tk2 F2 N2 hne hI2
        clear kF' kN' hne
        walk_at "mine go"
        refine comp_vals (cl := []) (vs := ps) (fun v y => ∃ t, y = .str (kindS v) t) F2 N2 (.tail _ (.tail _ (.tail _ (.head _)))) (CM.iter_list (Room.hhd H) (News.isList N2 (.tail _ (.tail _ (.tail _ (.head _)))))) (by omega) (fun Q hq => nameX_L F2 mQ hq) (by with_unfolding_all rfl) (by decide) (by rfl) (by decide) (by rfl) ?_ ?_
        · intro v I C D oI oC ys m₂ h2 tk2 hv F2 N2 hC mk
          have hvp := (hps.plain v hv).1
          walk_at "mine go"
          refine use_spec0 F2 N2 (kind_spec (by walk_at "mine bas") (by walk_at "mine room") v hvp) ?_
          clear F2 N2
          rintro _ h3 tk3 own F2 N2 ⟨t3, rfl⟩
          (try dsimp only)
          (try k_fold)
          walk_at "mine go"
          exact ⟨_, _, rfl, F2, N2, _, rfl⟩
        clear F2 N2
        intro D3 ys3 h2 tk2 F2 N2 hne hI3
        clear hne
        walk_at "mine go"
        obtain ⟨e1, e2⟩ := strs_same (items_strs hI2) (items_strs hI3) (hus.kinds2 hps)
        refine TL.lists_ne_same (News.isList N2 (.tail _ (.head _))) (News.isList N2 (.head _)) e1 (by have h9 := H.hu; show A.units + 3 < cLine; omega) e2 _ _ _ _ ?_
        walk_at "mine go"
        refine ⟨_, _, _, _, rfl, F2, News.drop1 (News.drop1 (News.drop1 (News.drop1 (News.drop1 N2)))), ?_⟩
        exact ⟨rfl, ⟨_, mo⟩, mV, ⟨_, my⟩, nm⟩
      clear kF kN nm mV my mo mQ mU hQm hUm hus hps hul hpl3
      rintro h0 tk0 m nw0 kF kN ⟨rfl, ⟨to, mo⟩, mV, ⟨ty2, my⟩, nm⟩
      (try dsimp only)
      (try k_fold)
      -- ranks.append(_law_rank(values))
      have hI1 : @Ne Nat I Rw ∧ @Ne Nat I Ot ∧ @Ne Nat I Sz ∧ @Ne Nat I Rk := ⟨fun e => hI _ (.head _) e.symm, fun e => hI _ (.tail _ (.head _)) e.symm, fun e => hI _ (.tail _ (.tail _ (.head _))) e.symm, fun e => hI _ (.tail _ (.tail _ (.tail _ (.head _)))) e.symm⟩
      refine cut_stmt (h₀ := s.heap) (L := L') (fun m nw => ∃ (T : Addr) (own6 : List (Addr × Obj)) (n1' : Nat), nw = (I, oI) :: (Rw, listOf wv.toArray n4) :: (Ot, listOf (oks.map Value.ref).toArray n3) :: (Sz, listOf sv.toArray n2) :: (Rk, listOf ((rks ++ [T]).map Value.ref).toArray n1') :: own6 ∧ ((∀ p ∈ own5, p ∈ own6) ∧ PySem.W.OwnOff own6 [I, Rw, Ot, Sz, Rk]) ∧ RankOut vs (.ref T) own6 ∧ (∃ t, m (PySem.Str.ofString "octets") = some (.bytes X.toArray t)) ∧ (∃ t, m (PySem.Str.ofString "y") = some (.int y t)) ∧ LawNm bareT wholeT fmtT (e : Int) (rm : Int) ((totW its : Nat) : Int) K Z O1 Rk Sz Ot Rw m) ?_ ?_
      · obtain ⟨-, -, -, -, -, -, -, -, -, mRk, -⟩ := id nm
        have hrl : rks.length = k := by rw [hT1.1, hsl]
        have z1 : ((rks.map Value.ref).toArray).size ≤ sizeLine := by rw [List.size_toArray, List.length_map, sizeLine_eq]; omega
        walk_at "mine go"
        refine use_specO kF kN (rank_spec (by walk_at "mine bas") (by walk_at "mine room") V vs (fun v hv => (hpl2 v hv).1) (by omega) (vals_rank hVals hpl2 fun it hi => by have := (hQ it hi).2; omega) (.inl (News.isList kN (.tail _ (.tail _ (.tail _ (.tail _ (.tail _ hV)))))))) ?_
        rintro v h2 tk2 own F2 N2 of2 hR
        obtain ⟨T, rs, nn, rfl, hR2⟩ := id hR
        clear hR2
        have hoff7 := off5 hoff6 of2
        obtain ⟨own6, h6⟩ : ∃ x, x = own5 ++ own := ⟨_, rfl⟩
        rw [← h6] at hoff7
        have N3 : News s.heap L' h2 ((I, oI) :: (Rw, listOf wv.toArray n4) :: (Ot, listOf (oks.map Value.ref).toArray n3) :: (Sz, listOf sv.toArray n2) :: (Rk, listOf (rks.map Value.ref).toArray n1) :: own6) := by rw [h6]; exact N2
        clear N2 kF kN
        obtain ⟨hI1, hI2, hI3, hI4⟩ := hI1
        obtain ⟨hw1, hw2, hw3⟩ := hRw
        obtain ⟨ho1, ho2⟩ := hOt
        (try dsimp only)
        (try k_fold)
        walk_at "mine go"
        all_goals (rename News _ _ _ _ => kN')
        (rename Fr _ _ _ _ => kF')
        simp only [List.push_toArray, map_ref_snoc] at kN'
        refine ⟨_, _, _, _, rfl, kF', kN', ?_⟩
        exact ⟨T, own6, _, rfl, ⟨fun p hp => by rw [h6]; exact List.mem_append_left _ hp, hoff7⟩, hR.mono fun p hp => by rw [h6]; exact List.mem_append_right _ hp, ⟨_, mo⟩, ⟨_, my⟩, nm⟩
      clear kF kN nm mV my mo
      rintro h0 tk0 m nw0 kF kN ⟨T, own6, n1', rfl, ⟨hsub6, hoff7⟩, hR, ⟨to, mo⟩, ⟨ty2, my⟩, nm⟩
      (try dsimp only)
      (try k_fold)
      -- sizes.append(int.from_bytes(octets, 'big'))
      refine cut_stmt (h₀ := s.heap) (L := L') (fun m nw => ∃ (n2' : Nat) (tS : Tok), nw = (I, oI) :: (Rw, listOf wv.toArray n4) :: (Ot, listOf (oks.map Value.ref).toArray n3) :: (Sz, listOf (sv ++ [Value.int ((BT.fromB X : Nat) : Int) tS]).toArray n2') :: (Rk, listOf ((rks ++ [T]).map Value.ref).toArray n1') :: own6 ∧ (∃ t, m (PySem.Str.ofString "y") = some (.int y t)) ∧ LawNm bareT wholeT fmtT (e : Int) (rm : Int) ((totW its : Nat) : Int) K Z O1 Rk Sz Ot Rw m) ?_ ?_
      · obtain ⟨-, -, -, -, -, -, -, -, -, -, mSz, -⟩ := id nm
        have z1 : (sv.toArray).size ≤ sizeLine := by rw [List.size_toArray, hss.length, sizeLine_eq]; omega
        obtain ⟨hI1, hI2, hI3, hI4⟩ := hI1
        obtain ⟨hw1, hw2, hw3⟩ := hRw
        obtain ⟨ho1, ho2⟩ := hOt
        walk_at "mine go"
        (rename News _ _ _ _ => kN')
        refine RY.from_big kN' (.head _) (by omega) ?_
        (try dsimp only)
        (try k_fold)
        walk_at "mine go"
        (rename News _ _ _ _ => kN2)
        (rename Fr _ _ _ _ => kF')
        simp only [List.push_toArray] at kN2
        refine ⟨_, _, _, _, rfl, kF', News.drop1 kN2, ?_⟩
        exact ⟨_, _, rfl, ⟨_, my⟩, nm⟩
      clear kF kN nm my mo
      rintro h0 tk0 m nw0 kF kN ⟨n2', tS, rfl, ⟨ty2, my⟩, nm⟩
      (try dsimp only)
      (try k_fold)
      -- row = y % 256 ** room
      obtain ⟨M, hM, hM2⟩ := fmod_256 y rm
      refine cut_stmt (h₀ := s.heap) (L := L') (fun m nw => nw = (I, oI) :: (Rw, listOf wv.toArray n4) :: (Ot, listOf (oks.map Value.ref).toArray n3) :: (Sz, listOf (sv ++ [Value.int ((BT.fromB X : Nat) : Int) tS]).toArray n2') :: (Rk, listOf ((rks ++ [T]).map Value.ref).toArray n1') :: own6 ∧ (∃ t, m (PySem.Str.ofString "row") = some (.int (M : Int) t)) ∧ LawNm bareT wholeT fmtT (e : Int) (rm : Int) ((totW its : Nat) : Int) K Z O1 Rk Sz Ot Rw m) ?_ ?_
      · obtain ⟨-, -, -, -, ⟨tr, mr⟩, -⟩ := id nm
        walk_at "mine go"
        all_goals (rename Fr _ _ _ _ => kF')
        refine ⟨_, _, _, _, rfl, kF', (by assumption), ?_⟩
        exact ⟨rfl, ⟨_, by rw [← hM]; walk_at "mine look"⟩, nm.n_row⟩
      clear kF kN nm my
      rintro h0 tk0 m nw0 kF kN ⟨rfl, ⟨tw, mw⟩, nm⟩
      (try dsimp only)
      (try k_fold)
      -- told = unpack_bitstruct(whole, row.to_bytes(room, 'big'))
      obtain ⟨Mz, hMz, hMc⟩ := whole_row (fun it h => (hP it h).1) hr8 hpl hr40 hM2
      refine cut_stmtG (h₀ := s.heap) (L := L') (fun m nw => ∃ (U : Addr) (us' : List Value) (nU : Nat) (own7 : List (Addr × Obj)), nw = (I, oI) :: (Rw, listOf wv.toArray n4) :: (Ot, listOf (oks.map Value.ref).toArray n3) :: (Sz, listOf (sv ++ [Value.int ((BT.fromB X : Nat) : Int) tS]).toArray n2') :: (Rk, listOf ((rks ++ [T]).map Value.ref).toArray n1') :: own7 ∧ (((∀ p ∈ own6, p ∈ own7) ∧ PySem.W.OwnOff own7 [I, Rw, Ot, Sz, Rk])) ∧ (U, ({ cls := .type "tuple", data := .seq (List.toArray us') nU } : Obj)) ∈ own7 ∧ URow pts Mz us' ∧ MR m (PySem.Str.ofString "told") U ∧ (∃ t, m (PySem.Str.ofString "row") = some (.int (M : Int) t)) ∧ LawNm bareT wholeT fmtT (e : Int) (rm : Int) ((totW its : Nat) : Int) K Z O1 Rk Sz Ot Rw m) ?_ ?_
      · obtain ⟨-, ⟨tb, mb⟩, -, -, ⟨tr, mr⟩, -⟩ := id nm
        walk_at "mine go"
        refine use_specG kF kN (unpack_spec2 (by walk_at "mine bas") (by walk_at "mine room") _ true hW1 _ _ hW2 hW3 hW4 pts hW5 Mz _ hMz) ?_
        rintro v h2 tk2 gs2 own F2 N2 of2 hg2 ⟨U, us', nU, rfl, hU, hul, hus⟩
        (try dsimp only)
        (try k_fold)
        walk_at "mine go"
        all_goals (rename News _ _ _ _ => kN')
        all_goals (rename Fr _ _ _ _ => kF')
        refine ⟨_, _, _, _, _, rfl, hg2, kF', kN', ?_⟩
        exact ⟨U, us', _, own6 ++ own, rfl, ⟨fun p hp => List.mem_append_left _ hp, off5 hoff7 of2⟩, List.mem_append_right _ hU, out_row hMz hul hus, by walk_at "mine look", ⟨_, by walk_at "mine look"⟩, nm.n_told⟩
      clear kF kN nm mw
      rintro h0 tk0 gs3 m nw0 hg3 kF kN ⟨U, us', nU, own7, rfl, ⟨hsub7, hoff8⟩, hUm, hus, mU, ⟨tw, mw⟩, nm⟩
      (try dsimp only)
      (try k_fold)
      have hul := hus.len
      have hK7 : (K, PyProof.Rows.LCg.lst ks) ∈ own7 := hsub7 _ (hsub6 _ (hsub5 _ (hsub4 _ (hsub3 _ (hb2 _ hKm)))))
      -- if not isinstance(told, tuple) or [..] != kinds or pack_bitstruct(whole, *told) != row.to_bytes(room, 'big'): return False
      refine cut_stmt (h₀ := s.heap) (L := L') (fun m nw => nw = (I, oI) :: (Rw, listOf wv.toArray n4) :: (Ot, listOf (oks.map Value.ref).toArray n3) :: (Sz, listOf (sv ++ [Value.int ((BT.fromB X : Nat) : Int) tS]).toArray n2') :: (Rk, listOf ((rks ++ [T]).map Value.ref).toArray n1') :: own7 ∧ MR m (PySem.Str.ofString "told") U ∧ (∃ t, m (PySem.Str.ofString "row") = some (.int (M : Int) t)) ∧ LawNm bareT wholeT fmtT (e : Int) (rm : Int) ((totW its : Nat) : Int) K Z O1 Rk Sz Ot Rw m) ?_ ?_
      · obtain ⟨-, ⟨tb, mb⟩, -, -, ⟨tr, mr⟩, -, mK, -⟩ := id nm
        replace kN := News.dup kN (.tail _ (.tail _ (.tail _ (.tail _ (.tail _ hUm)))))
        walk_at "mine go"
        refine isi_tup (isTup_of kN (.head _)) ?_
        walk_at "mine go"
        refine comp_vals (cl := []) (vs := us') (fun v y => ∃ t, y = .str (kindS v) t) kF kN (.head _) (CM.iter_tup (Room.hhd H) (isTup_of kN (.head _))) (by omega) (fun Q hq => nameX_L kF mU hq) (by with_unfolding_all rfl) (by decide) (by rfl) (by decide) (by rfl) ?_ ?_
        · intro v I C D oI oC ys m₂ h2 tk2 hv F2 N2 hC mk
          have hvp := (hus.plain v hv).1
          walk_at "mine go"
          refine use_spec0 F2 N2 (kind_spec (by walk_at "mine bas") (by walk_at "mine room") v hvp) ?_
          clear F2 N2
          rintro _ h3 tk3 own F2 N2 ⟨t3, rfl⟩
          (try dsimp only)
          (try k_fold)
          walk_at "mine go"
          exact ⟨_, _, rfl, F2, N2, _, rfl⟩
        intro D2 ys h2 tk2 F2 N2 hne hI2
        clear hne kF kN
        walk_at "mine go"
        obtain ⟨e1, e2⟩ := strs_same (items_strs hI2) hks hus.kinds
        refine TL.lists_ne_same (News.isList N2 (.head _)) (News.isList N2 (.tail _ (.tail _ (.tail _ (.tail _ (.tail _ (.tail _ (.tail _ hK7)))))))) e1 (by have h9 := H.hu; show A.units + 3 < cLine; omega) e2 _ _ _ _ ?_
        walk_at "mine go"
        refine star_tup F2 N2 (isTup_of N2 (.tail _ (.head _))) (by rw [List.size_toArray, sizeLine_eq]; omega) ?_
        clear F2 N2
        intro h2 F2 N2
        (try dsimp only)
        (try k_fold)
        walk_at "mine go"
        rw [List.append_nil]
        refine use_spec0 F2 N2 (pack_spec2 (by walk_at "mine bas") (by walk_at "mine room") _ true hW1 _ hW2 hW3 hW4 pts hW5 Mz us' (hus.vals fun it h => (hP it h).2.2.2) hp300 hp1 (by omega) (by omega)) ?_
        clear F2 N2
        rintro v' h' tk' own F2 N2 ⟨t', rfl⟩
        rw [whole_back hr8 hMc]
        (try dsimp only)
        (try k_fold)
        walk_at "mine go"
        · (rename (_ != _) = true => hc)
          exact absurd hc (by simp)
        · refine ⟨_, _, _, _, rfl, F2, News.drop1 (News.drop1 N2), ?_⟩
          exact ⟨rfl, mU, ⟨_, mw⟩, nm⟩
      clear kF kN nm mw mU
      rintro h0 tk0 m nw0 kF kN ⟨rfl, mU, ⟨tw, mw⟩, nm⟩
      (try dsimp only)
      (try k_fold)
      -- if [len(v) for v in told if isinstance(v, bytes)] != sized: return False
      have hZ7 : (Z, PyProof.Rows.LCg.lst zz) ∈ own7 := hsub7 _ (hsub6 _ (hsub5 _ (hsub4 _ (hsub3 _ (hb2 _ hZm)))))
      refine cut_stmt (h₀ := s.heap) (L := L') (fun m nw => nw = (I, oI) :: (Rw, listOf wv.toArray n4) :: (Ot, listOf (oks.map Value.ref).toArray n3) :: (Sz, listOf (sv ++ [Value.int ((BT.fromB X : Nat) : Int) tS]).toArray n2') :: (Rk, listOf ((rks ++ [T]).map Value.ref).toArray n1') :: own7 ∧ MR m (PySem.Str.ofString "told") U ∧ (∃ t, m (PySem.Str.ofString "row") = some (.int (M : Int) t)) ∧ LawNm bareT wholeT fmtT (e : Int) (rm : Int) ((totW its : Nat) : Int) K Z O1 Rk Sz Ot Rw m) ?_ ?_
      · obtain ⟨-, -, -, -, -, -, -, mZ, -⟩ := id nm
        replace kN := News.dup kN (.tail _ (.tail _ (.tail _ (.tail _ (.tail _ hUm)))))
        walk_at "mine go"
        refine comp_vals_if (cl := []) isB (vs := us') (fun v y => ∃ t, y = .int (lenB v) t) kF kN (.head _) (CM.iter_tup (Room.hhd H) (isTup_of kN (.head _))) (by omega) (fun Q hq => nameX_L kF mU hq) (by with_unfolding_all rfl) (by decide) (by rfl) (by decide) (by rfl) ?_ ?_ ?_
        · intro v I C D oI oC ys m₂ h2 tk2 hv F2 N2 hC mk
          have hvp := (hus.plain v hv).1
          cases v with
          | int i t =>
            walk_at "mine go"
            exact ⟨_, _, rfl, F2, N2, rfl⟩
          | bool i =>
            walk_at "mine go"
            exact ⟨_, _, rfl, F2, N2, rfl⟩
          | bytes i t =>
            walk_at "mine go"
            exact ⟨_, _, rfl, F2, N2, rfl⟩
          | str i t =>
            walk_at "mine go"
            exact ⟨_, _, rfl, F2, N2, rfl⟩
          | _ => exact hvp.elim
        · intro v I C D oI oC ys m₂ h2 tk2 hv hvB F2 N2 hC mk
          have hvl := hus.small (fun it h => by have := (hP it h).2.2.1; omega) v hv
          cases v with
          | bytes i t =>
            have hvl : ((i.size : Nat) : Int) ≤ 100 := hvl
            walk_at "mine go"
            exact ⟨_, _, rfl, F2, N2, _, rfl⟩
          | _ => exact absurd (show false = true from hvB) Bool.false_ne_true
        intro D2 ys h2 tk2 F2 N2 hne hI2
        clear hne kF kN
        walk_at "mine go"
        obtain ⟨e1, e2⟩ := ints_same (items_ints hI2) hzz hus.lens
        refine TL.lists_ne_same (News.isList N2 (.head _)) (News.isList N2 (.tail _ (.tail _ (.tail _ (.tail _ (.tail _ (.tail _ (.tail _ hZ7)))))))) e1 (by have h9 := H.hu; show A.units + 3 < cLine; omega) e2 _ _ _ _ ?_
        walk_at "mine go"
        refine ⟨_, _, _, _, rfl, F2, News.drop1 (News.drop1 N2), ?_⟩
        exact ⟨rfl, mU, ⟨_, mw⟩, nm⟩
      clear kF kN nm mw mU
      rintro h0 tk0 m nw0 kF kN ⟨rfl, mU, ⟨tw, mw⟩, nm⟩
      (try dsimp only)
      (try k_fold)
      --@END
      -- others.append(_law_rank(told))
      have hol : oks.length = k := by rw [hT2.1, hul0]
      refine cut_stmt (h₀ := s.heap) (L := L') (fun m nw => ∃ (T2 : Addr) (own8 : List (Addr × Obj)) (n3' : Nat), nw = (I, oI) :: (Rw, listOf wv.toArray n4) :: (Ot, listOf ((oks ++ [T2]).map Value.ref).toArray n3') :: (Sz, listOf (sv ++ [Value.int ((BT.fromB X : Nat) : Int) tS]).toArray n2') :: (Rk, listOf ((rks ++ [T]).map Value.ref).toArray n1') :: own8 ∧ ((∀ p ∈ own7, p ∈ own8) ∧ PySem.W.OwnOff own8 [I, Rw, Ot, Sz, Rk]) ∧ RankOut us' (.ref T2) own8 ∧ (∃ t, m (PySem.Str.ofString "row") = some (.int (M : Int) t)) ∧ LawNm bareT wholeT fmtT (e : Int) (rm : Int) ((totW its : Nat) : Int) K Z O1 Rk Sz Ot Rw m) ?_ ?_
      · obtain ⟨-, -, -, -, -, -, -, -, -, -, -, mOt, -⟩ := id nm
        have z1 : ((oks.map Value.ref).toArray).size ≤ sizeLine := by rw [List.size_toArray, List.length_map, sizeLine_eq]; omega
        walk_at "mine go"
        refine use_specO kF kN (rank_spec (by walk_at "mine bas") (by walk_at "mine room") U us' (fun v hv => (hus.plain v hv).1) (by omega) (vals_rank (hus.vals fun it h => (hP it h).2.2.2) hus.plain fun it h => by have := (hP it h).2.2.1; omega) (.inr (isTup_of kN (.tail _ (.tail _ (.tail _ (.tail _ (.tail _ hUm)))))))) ?_
        rintro v h2 tk2 own F2 N2 of2 hR2
        obtain ⟨T2, rs, nn, rfl, hR3⟩ := id hR2
        clear hR3
        have hoff9 := off5 hoff8 of2
        obtain ⟨own8, h6⟩ : ∃ x, x = own7 ++ own := ⟨_, rfl⟩
        rw [← h6] at hoff9
        have N3 : News s.heap L' h2 ((I, oI) :: (Rw, listOf wv.toArray n4) :: (Ot, listOf (oks.map Value.ref).toArray n3) :: (Sz, listOf (sv ++ [Value.int ((BT.fromB X : Nat) : Int) tS]).toArray n2') :: (Rk, listOf ((rks ++ [T]).map Value.ref).toArray n1') :: own8) := by rw [h6]; exact N2
        clear N2 kF kN
        obtain ⟨hI1, hI2, hI3, hI4⟩ := hI1
        obtain ⟨hw1, hw2, hw3⟩ := hRw
        obtain ⟨ho1, ho2⟩ := hOt
        (try dsimp only)
        (try k_fold)
        walk_at "mine go"
        (rename News _ _ _ _ => kN')
        (rename Fr _ _ _ _ => kF')
        simp only [List.push_toArray, map_ref_snoc] at kN'
        refine ⟨_, _, _, _, rfl, kF', kN', ?_⟩
        exact ⟨T2, own8, _, rfl, ⟨fun p hp => by rw [h6]; exact List.mem_append_left _ hp, hoff9⟩, hR2.mono fun p hp => by rw [h6]; exact List.mem_append_right _ hp, ⟨_, mw⟩, nm⟩
      clear kF kN nm mw mU
      rintro h0 tk0 m nw0 kF kN ⟨T2, own8, n3', rfl, ⟨hsub8, hoff9⟩, hR2, ⟨tw, mw⟩, nm⟩
      (try dsimp only)
      (try k_fold)
      -- rows.append(row)
      have hs28 : ∀ p ∈ own2, p ∈ own8 := fun p hp => hsub8 _ (hsub7 _ (hsub6 _ (hsub5 _ (hsub4 _ (hsub3 _ hp)))))
      have hs68 : ∀ p ∈ own6, p ∈ own8 := fun p hp => hsub8 _ (hsub7 _ hp)
      obtain ⟨-, -, -, -, -, -, -, -, -, -, -, -, mRw⟩ := id nm
      have z1 : (wv.toArray).size ≤ sizeLine := by rw [List.size_toArray, huu.length, sizeLine_eq]; omega
      have hfin := rec_num hVals
      obtain ⟨hI1, hI2, hI3, hI4⟩ := hI1
      obtain ⟨hw1, hw2, hw3⟩ := hRw
      obtain ⟨ho1, ho2⟩ := hOt
      walk_at "mine go"
      (rename News _ _ _ _ => kN')
      (rename Fr _ _ _ _ => kF')
      simp only [List.push_toArray] at kN'
      refine ⟨_, _, _, _, _, rfl, (fun h => hg3 (hg2 (hb h))), kF', kN', ?_⟩
      refine ⟨_, rfl, ?_, rks ++ [T], oks ++ [T2], ss ++ [((BT.fromB X : Nat) : Int)], us ++ [(M : Int)], _, _, own8, _, _, _, _, rfl, (fun p hp => hs28 _ (hb2 _ hp)), ?_, ?_, ?_, hss.append (.cons _ _ .nil), huu.append (.cons _ _ .nil), ?_, ?_, nm⟩
      · intro p hp
        rcases List.mem_cons.mp hp with rfl | hp
        · exact fun e => hI1 e.symm
        rcases List.mem_cons.mp hp with rfl | hp
        · exact fun e => hI2 e.symm
        rcases List.mem_cons.mp hp with rfl | hp
        · exact fun e => hI3 e.symm
        rcases List.mem_cons.mp hp with rfl | hp
        · exact fun e => hI4 e.symm
        · exact hoff9 p hp I (.head _)
      · exact fun p hp b hb => hoff9 p hp b (.tail _ hb)
      · rw [List.length_append, hsl]; rfl
      · rw [List.length_append, hul0]; rfl
      · refine (hT1.mono hs28).snoc (hR.mono hs68) ⟨Ns, vs, hVals, fun v hv => (hpl2 v hv).2, rfl, ?_⟩
        rw [hX, hpd, hfin]
      · refine (hT2.mono hs28).snoc hR2 ⟨Mz, us', hus.vals fun it h => (hP it h).2.2.2, fun v hv => (hus.plain v hv).2, rfl, ?_⟩
        rw [hMc, Nat.pow_zero, Nat.mul_one]
    
    clear kF8 kN nm hoff
    rintro I m news h tk gs ⟨rks, oks, ss, us, sv, wv, own2, n1, n2, n3, n4, rfl, -, hoff, hsl, hul, hss, huu, hT1, hT2, nm⟩ hb kF kN
    (try dsimp only)
    (try k_fold)
    have hdl : dv.length ≤ 5 := by rw [hds.length]; exact hd5
    have e1 : (rks.map Value.ref).length = ss.length := by rw [List.length_map, hT1.1]
    have e2 : sv.length = ss.length := hss.length
    have e3 : (oks.map Value.ref).length = us.length := by rw [List.length_map, hT2.1]
    have e4 : wv.length = us.length := huu.length
    have hw1 : ∀ it ∈ its, 1 ≤ it.W := fun it hi => (hQ it hi).1.1
    have hw2 : ∀ it ∈ pts, 1 ≤ it.W := fun it hi => (hP it hi).2.1
    have h9 := H.hu
    obtain ⟨-, -, -, -, -, -, -, -, -, mRk, mSz, mOt, mRw⟩ := nm
    walk_at "mine go"
    refine use_specO kF kN (pairs_spec (by walk_at "mine bas") (by walk_at "mine room") Rk (rks.map Value.ref) (eqF ss) (ltF ss) (News.isList kN (.tail _ (.tail _ (.tail _ (.head _))))) (by omega) (fun A' s' i j u v e hu h1 h2 => hT1.HK hw1 (fun p hp => (kN p (.tail _ (.tail _ (.tail _ (.tail _ hp))))).1) A' s' i j u v e hu h1 h2)) ?_
    clear kF
    rintro v h2 tk2 ownA kF N2 - hA
    rw [e1] at hA
    obtain ⟨DA, rs1, nn1, rfl, hr1⟩ := id hA
    clear hr1
    (try dsimp only)
    (try k_fold)
    walk_at "mine go"
    refine use_specO kF N2 (pairs_spec (by walk_at "mine bas") (by walk_at "mine room") Sz sv (eqF ss) (ltF ss) (News.isList N2 (.tail _ (.tail _ (.head _)))) (by omega) (fun A' s' i j u v e hu h1 h2 => ints_HK hss A' s' i j u v h1 h2)) ?_
    clear kF
    rintro v h3 tk3 ownB kF N3 - hB
    rw [e2] at hB
    obtain ⟨DB, rs2, nn2, rfl, hr2⟩ := id hB
    clear hr2
    (try dsimp only)
    (try k_fold)
    walk_at "mine go"
    refine pairs_eq hA hB (fun p hp => (N3 p (List.mem_append_left _ (List.mem_append_right _ hp))).1) (fun p hp => (N3 p (List.mem_append_right _ hp)).1) (fun i j _ _ => ⟨rfl, rfl⟩) (by show A.units + 3 + 3 < cLine; omega) _ _ _ _ ?_
    clear hA hB
    walk_at "mine go"
    refine use_specO kF N3 (pairs_spec (by walk_at "mine bas") (by walk_at "mine room") Ot (oks.map Value.ref) (eqF us) (ltF us) (News.isList N3 (.tail _ (.head _))) (by omega) (fun A' s' i j u v e hu h1 h2 => hT2.HK hw2 (fun p hp => (N3 p (List.mem_append_left _ (List.mem_append_left _ (.tail _ (.tail _ (.tail _ (.tail _ hp))))))).1) A' s' i j u v e hu h1 h2)) ?_
    clear kF
    rintro v h4 tk4 ownC kF N4 - hC
    rw [e3] at hC
    obtain ⟨DC, rs3, nn3, rfl, hr3⟩ := id hC
    clear hr3
    (try dsimp only)
    (try k_fold)
    walk_at "mine go"
    refine use_specO kF N4 (pairs_spec (by walk_at "mine bas") (by walk_at "mine room") Rw wv (eqF us) (ltF us) (News.isList N4 (.head _)) (by omega) (fun A' s' i j u v e hu h1 h2 => ints_HK huu A' s' i j u v h1 h2)) ?_
    clear kF
    rintro v h5 tk5 ownD kF N5 - hD
    rw [e4] at hD
    obtain ⟨DD, rs4, nn4, rfl, hr4⟩ := id hD
    clear hr4
    (try dsimp only)
    (try k_fold)
    walk_at "mine go"
    refine pairs_eq hC hD (fun p hp => (N5 p (List.mem_append_left _ (List.mem_append_right _ hp))).1) (fun p hp => (N5 p (List.mem_append_right _ hp)).1) (fun i j _ _ => ⟨rfl, rfl⟩) (by show A.units + 3 + 3 < cLine; omega) _ _ _ _ ?_
    clear hC hD
    walk_at "mine go"
    exact ⟨_, _, _, _, [], rfl, rfl, Fr.keep kF, (fun _ h => nomatch h), hb, rfl⟩
end
end
end Mine
set_option maxHeartbeats 8000000 in
theorem PySem.Challenge.cw_bk5003_01_holds : PySem.Challenge.rw_bk5003_01.Holds := by
  exact Mine.hd (by
  k_fill
  intro w s₀ s₁ mg mb G Y fa o pm cd doc dV kV ho hd hcd hD hmg hg args vals as hpre hlay hrd hwl hlo
  have KX := kIn_of Y
  refine Ground.open G ?_
  intro T B D TE TW
  try (refine guard_noD D (by decide +kernel) ?_; clear D)
  have e1 : mg (PySem.Str.ofString "law") = some (.ref 559) := mg_of KX (Top.g T) (by kernel_rfl)
  have e2 : fa = 559 := by
    have e3 : mg (PySem.Str.ofString "law") = some (.ref fa) := hmg
    rw [e1] at e3
    cases e3; rfl
  subst e2
  clear ho hd hcd hD hmg
  wrow_args hpre hlay hrd hwl hlo
  rename_i zi hs0 hl0 hL1 hr1 hl2 a4 a3 sl zs a0 hL ra w1 r0 hI hr2 hc1 hc2
  show wpAny _ _ (call (Value.ref 559) [Value.ref sl]) _ _ _
  refine wpAny_call (codeAny_mono (Mine.law_spec ⟨KX, _, _, _, _, _, T⟩ ⟨rfl, by decide +kernel, by decide +kernel⟩ sl zs zi hL hI (by omega)) ?_)
  rintro r s' ⟨v, h', tk', gs', own, rfl, rfl, ext, hown, hbare, rfl⟩
  refine ⟨.inl ⟨.bool true, ofPy (.bool true), [], rfl, fun _ => rfl, ?_, ?_, ?_⟩, ?_, rfl, ?_⟩
  · exact ReadsW.bool true
  · wrow_post
  · exact fun _ => ⟨List.nodup_nil, fun a h => nomatch h⟩
  · exact .of_keep fun b o e => ext b o e
  · exact hbare fun y hy => by rw [hg] at hy; simp at hy)
