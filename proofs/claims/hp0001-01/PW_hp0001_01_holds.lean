import PyProof.Rows.All
import Wide.All
import OpenK.AllK
import Wide.FinOn
import PySem.Challenge.RW_hp0001_01
set_option Elab.async false
set_option maxRecDepth 100000
section
set_option maxRecDepth 100000
namespace Mine
open PySem PySem.W PyProof.Rows
/-! ## contexts whose stack holds nobody that holds a bytearray -/
def okc : Code → Bool
  | .builtin id _ => !(["bytearray.__contains__", "bytearray.__mod__", "bytearray.__rmod__", "_struct.pack_into.held", "bytearray.find.held"] ++ Builtin.Bytes.decodersThatHold).contains id
  | _ => true
def ClB (Γ : Ctx) : Prop := ∀ c ∈ Γ.below, okc c.1 = true
def Cl (Γ : Ctx) : Prop := okc Γ.code = true ∧ ClB Γ
def okst (st : List (Code × Pos)) : Bool := st.all fun c => okc c.1
def wpC {α : Type} (M : Model) (A : Around) (t : Sem α) (Q : α → Shared → Prop) (E : Value → Shared → Prop) (s : Shared) : Prop :=
  ∀ Γ p, Γ.In A → Cl Γ → Sem.wp M Γ t (fun a _ s' => Q a s') (fun e _ s' => E e s') p s
def codeC (M : Model) (A : Around) (c : Code) (R : Result → Shared → Prop) (s : Shared) : Prop :=
  ∀ Γ p, Γ.code = c → Γ.Below A → ClB Γ → wpCode M Γ R p s
section
variable {α β : Type} {M : Model} {A : Around} {E : Value → Shared → Prop} {s : Shared}
theorem wpC.of {t : Sem α} {Q : α → Shared → Prop} (h : wpAny M A t Q E s) : wpC M A t Q E s := fun Γ p i _ => h Γ p i
theorem codeC.of {c : Code} {R : Result → Shared → Prop} (h : codeAny M A c R s) : codeC M A c R s := fun Γ p e i _ => h Γ p e i
theorem wpC.mono {t : Sem α} {Q Q' : α → Shared → Prop} {E' : Value → Shared → Prop} (h : wpC M A t Q E s) (hQ : ∀ a s, Q a s → Q' a s) (hE : ∀ e s, E e s → E' e s) : wpC M A t Q' E' s :=
  fun Γ p i c => Sem.wp_mono M Γ t (fun a _ s => hQ a s) (fun e _ s => hE e s) p s (h Γ p i c)
theorem codeC.mono {c : Code} {R R' : Result → Shared → Prop} (h : codeC M A c R s) (hR : ∀ r s, R r s → R' r s) : codeC M A c R' s := fun Γ p e i k => wpCode_mono hR (h Γ p e i k)
theorem wpC.bind {m : Sem α} {f : α → Sem β} {Q : β → Shared → Prop} (h : wpC M A m (fun a s' => wpC M A (f a) Q E s') E s) : wpC M A (m >>= f) Q E s := fun Γ p i c => by
  rw [Sem.wp_bind']
  exact Sem.wp_mono M Γ m (fun a p' s' h' => h' Γ p' i c) (fun _ _ _ h' => h') p s (h Γ p i c)
/-- the first part in any context -/
theorem wpC.bindA {m : Sem α} {f : α → Sem β} {Q : β → Shared → Prop} (h : wpAny M A m (fun a s' => wpC M A (f a) Q E s') E s) : wpC M A (m >>= f) Q E s := wpC.bind (wpC.of h)
theorem wpC.pure {a : α} {Q : α → Shared → Prop} (h : Q a s) : wpC M A (Pure.pure a) Q E s := fun _ _ _ _ => h
theorem wpC.holding {vs : List Value} {m : Sem α} {Q : α → Shared → Prop} (h : wpC M A m Q E s) : wpC M A (PySem.holding vs m) Q E s := fun Γ p i c => by rw [Sem.wp_holding]; exact h Γ p i c
theorem wpC.onRaise {m : Sem α} {k : Value → Sem Unit} {Q : α → Shared → Prop} (h : wpC M A m Q (fun e s' => wpC M A (k e) (fun _ s'' => E e s'') E s') s) : wpC M A (m.onRaise k) Q E s := fun Γ p i c => by
  rw [Sem.wp_onRaise]
  exact Sem.wp_mono M Γ m (fun _ _ _ h' => h') (fun e p' s' h' => h' Γ p' i c) p s (h Γ p i c)
theorem wpC.attempt {m : Sem α} {Q : Except Value α → Shared → Prop} (h : wpC M A m (fun a => Q (.ok a)) (fun e => Q (.error e)) s) : wpC M A m.attempt Q E s := fun Γ p i c => by rw [Sem.wp_attempt]; exact h Γ p i c
theorem cl_enter {Γ : Ctx} {c : Code} {h : Option Value} {p : Pos} (k : Cl Γ) : ClB (Γ.enter c h p) := fun x hx => by
  rcases List.mem_cons.mp hx with rfl | hx
  · exact k.1
  · exact k.2 x hx
theorem wpC.run {c : Code} {h : Option Value} {Q : Flow → Shared → Prop} (hc : codeC M (A.mark h) c (fun r s' => match r with | .ok f => Q f s' | .error e => E e s') s) (hnb : h ≠ some byPass := by intro x; cases x) : wpC M A (PySem.run c h) Q E s :=
  fun Γ p i k => by rw [Sem.wp_run]; exact hc _ p rfl (i.enter c h p hnb) (cl_enter k)
theorem wpC.runValue {c : Code} {Q : Value → Shared → Prop} (hc : codeC M A c (fun r s' => match r with | .ok (.ret v) => Q v s' | .ok _ => False | .error e => E e s') s) : wpC M A (PySem.runValue c) Q E s :=
  fun Γ p i k => by rw [Sem.wp_runValue]; exact hc _ p rfl (i.enter c none p (by intro x; cases x)) (cl_enter k)
theorem wpC.call {f : Value} {pos : List Value} {kw : List (Str × Value)} {Q : Value → Shared → Prop} (hc : codeC M A (.call f ⟨pos, kw⟩) (fun r s' => match r with | .ok (.ret v) => Q v s' | .ok _ => False | .error e => E e s') s) : wpC M A (PySem.call f pos kw) Q E s := wpC.runValue hc
theorem codeC.tree {c : Code} {R : Result → Shared → Prop} (ok : okc c = true) (h : wpC M (A.under c) (M.den c) (fun fin s' => match fin with | .done f => R (.ok f) s' | .again c' => c'.quiet = true ∧ codeC M A c' R s') (fun e s' => R (.error e) s') s) : codeC M A c R s := fun Γ p e i k => by
  rw [wpCode_iff_wp, e]
  refine Sem.wp_mono M Γ _ (fun fin p' s' h' => ?_) (fun _ _ _ h' => h') p s (h Γ p (e ▸ i.in) ⟨by rw [e]; exact ok, k⟩)
  cases fin with
  | done f => exact h'
  | again c' => exact ⟨h'.1, h'.2 (Γ.goto c') p' rfl (i.goto c') k⟩
theorem codeC.loop {c : Code} {R : Result → Shared → Prop} (ok : okc c = true) (hq : c.quiet = true) (I : Nat → Shared → Prop)
    (turn : ∀ n s, I n s → wpC M (A.under c) (M.den c) (fun fin s' => match fin with | .done f => R (.ok f) s' | .again c' => c' = c ∧ ∃ m, m < n ∧ I m s') (fun e s' => R (.error e) s') s) (n : Nat) (h : I n s) : codeC M A c R s := by
  induction n using Nat.strongRecOn generalizing s with
  | ind n ih =>
    refine codeC.tree ok ((turn n s h).mono (fun fin s' hf => ?_) fun _ _ h' => h')
    cases fin with
    | done f => exact hf
    | again c' => obtain ⟨rfl, m, hm, hI⟩ := hf; exact ⟨hq, ih m hm hI⟩
end
/-! ## a guarded call -/
def Gd (t : Sem Value) : Sem Value := stack >>= fun st => if okst st = true then t else Pure.pure (.bool true)
def GdF (t : Sem Fin) : Sem Fin := .stack fun st => if okst st = true then t else Pure.pure (.done (.ret (.bool true)))
theorem okst_cl {Γ : Ctx} {p : Pos} : okst ((Γ.code, p) :: Γ.below) = true ↔ Cl Γ := by
  unfold okst Cl ClB
  simp only [List.all_cons, Bool.and_eq_true, List.all_eq_true]
theorem wp_Gd {M : Model} {A : Around} {t : Sem Value} {Q : Value → Shared → Prop} {E : Value → Shared → Prop} {s : Shared} (h : wpC M A t Q E s) (h' : Q (.bool true) s) : wpAny M A (Gd t) Q E s := fun Γ p i => by
  show Sem.wp M Γ (if okst ((Γ.code, p) :: Γ.below) = true then t else Pure.pure (.bool true)) _ _ p s
  by_cases c : okst ((Γ.code, p) :: Γ.below) = true
  · rw [if_pos c]; exact h Γ p i (okst_cl.mp c)
  · rw [if_neg c]; exact h'
end Mine
namespace Mine.H
open PySem PySem.W PyProof.Rows
/-- the guarded thread's first step -/
theorem guarded_step {prog : Program} {w : World} {s : Shared} {t : Sem Fin} {n : Nat} {o : Outcome} {s' : Shared} (hz : s.asleep) (h : schedN (denote table) prog w n (.single s ⟨GdF t, .builtin "claim.caller" {}, default, []⟩) = .halted o s') :
    ∃ n, schedN (denote table) prog w n (.single s ⟨t, .builtin "claim.caller" {}, default, []⟩) = .halted o s' := by
  cases n with
  | zero => cases h
  | succ n =>
    refine ⟨n, ?_⟩
    have e : step (denote table) prog w s ⟨GdF t, .builtin "claim.caller" {}, default, []⟩ = .go s ⟨t, .builtin "claim.caller" {}, default, []⟩ := by
      obtain ⟨heap, gens, drawn, toks, os⟩ := s
      have ok : okst [((.builtin "claim.caller" {} : Code), (default : Pos))] = true := by decide +kernel
      show Step.go _ ⟨if okst [((.builtin "claim.caller" {} : Code), (default : Pos))] = true then t else _, _, _, _⟩ = _
      rw [if_pos ok]
    rcases sstep_single (denote table) prog w s ⟨GdF t, .builtin "claim.caller" {}, default, []⟩ rfl hz with q | q
    · rw [schedN, q, e] at h
      exact h
    · rw [e] at q; cases q
theorem PySem.W.holds_open {r : OpenRow} {q : Program} {loose : List Str} {Xt : Shared → Bool} {XP : (Str → Option Value) → Heap → Prop} {α : Type} {Yf : Shared → α} {Ya : World → α} {YP : World → Heap → Prop} {d : DefRec} {kwd : List (Str × Expr)} {N : Nat}
    (left : LeftO r.prog q loose Xt Yf Ya N) (hY : ∀ w s, Yf s = Ya w → YP w s.heap) (hYk : ∀ w h h', YP w h → (∀ b o, h.get? b = some o → h'.get? b = some o) → YP w h')
    (hX : ∀ s, Xt s = true → XP (s.heap.nsMap mainGlobals) s.heap) (hXk : ∀ mg h h', XP mg h → (∀ b o, h.get? b = some o → h'.get? b = some o) → XP mg h')
    (hdef : defOf q r.name = some (d, kwd)) (hp : r.prog.theDef r.name = some (d.params, d.body, d.scope)) (hk : kwWritten? d.params.kwonlyargs d.params.kw_defaults = some kwd) (hRf : ∀ s, Xt s = true → RecFacts r.records s.heap) (hwr : (!r.writes || r.records.isEmpty) = true)
    (k1 : r.wellSaid = true) (ok : (chainsOk q && opensWell r.prog && (frees r.toRowW && r.within.isEmpty)) = true) (hb : r.prog.bare) (hw : r.toRowW.promised)
    (call : WalkO q loose XP YP r.toRowW d kwd fun f vs => Gd (PySem.call f vs)) : r.Holds := by
  have H := open_anyG (r := r.toRowW) (defs := if r.pinned then [r.name] else []) (kps := r.keeps) (writes := r.writes) (run := fun f vs => Gd (PySem.call f vs)) (tree := fun vs => GdF (do
    match ← nsGet mainNs r.name with
    | some f => do ret (← PySem.call f vs)
    | none => unsupported "claim.caller:no-such-global")) left hY hYk hX hXk hRf hwr ok hb hw ?_ ?_ ?_
  · obtain ⟨hch, o1⟩ := Bool.and_eq_true_iff.mp ok
    refine ⟨k1, hw, H.1, H.2.1, fun w => ⟨(H.2.2 w).1, fun s' hs' => ?_⟩⟩
    obtain ⟨s₀, hf, hg0, s₁, hT, p1, p2, p3, hC⟩ := (H.2.2 w).2 s' hs'
    refine ⟨s₀, hf, hg0, s₁, hT, p1, p2, p3, fun args hpre hlay ord hord => ?_⟩
    obtain ⟨vs, s₂, hlaid, n, o, s'', hrun, rest⟩ := hC args hpre hlay ord hord
    have az : s₁.asleep := by
      obtain ⟨s₀', hf', _, s, hT', hz, _⟩ := (left.behind (XP := fun _ _ => True) (fun _ _ => trivial) (Bool.and_eq_true_iff.mp hch).1 w).2 s' hs'
      have e0 : s₀ = s₀' := Option.some.inj (Eq.trans (Eq.symm hf) hf')
      subst e0
      refine Shared.asleep_of_life ?_ hz
      exact hT.2.1.trans hT'.2.1.symm
    obtain ⟨n', hn'⟩ := guarded_step (Shared.asleep_of_life (layAllW_rest _ _ _ hlaid).2.2.2 az) hrun
    exact ⟨vs, s₂, hlaid, n', o, s'', hn', rest⟩
  · intro vs w s mg f Q E hg hf h Γ p i
    show Sem.wp _ Γ (if okst ((Γ.code, p) :: Γ.below) = true then _ else _) _ _ p s
    have h2 : ∀ p', Sem.wp (model r.prog w) Γ (if okst ((Γ.code, p') :: Γ.below) = true then PySem.call f vs else Pure.pure (.bool true)) (fun v _ s' => Q (.done (.ret v)) s') (fun e _ s' => E e s') p' s := fun p' => h Γ p' i
    by_cases c : okst ((Γ.code, p) :: Γ.below) = true
    · rw [if_pos c, Sem.wp_bind']
      have h3 := (wpAny_nsGet (M := model r.prog w) (A := callerA) (E := E) (Q := fun x s' => x = mg r.name ∧ s' = s) hg ⟨rfl, rfl⟩) Γ p i
      refine Sem.wp_mono _ Γ _ (fun x p' s' hx => ?_) (fun _ _ _ z => z) p s h3
      obtain ⟨rfl, rfl⟩ := hx
      rw [hf]
      have c' : okst ((Γ.code, p') :: Γ.below) = true := okst_cl.mpr (okst_cl.mp c)
      have h4 := h2 p'
      rw [if_pos c'] at h4
      show Sem.wp _ Γ (PySem.call f vs >>= fun v => ret v) _ _ p' s'
      rw [Sem.wp_bind']
      exact h4
    · rw [if_neg c]
      have h4 := h2 p
      rw [if_neg c] at h4
      exact h4
  · intro w s hg G n hn
    obtain rfl : n = r.name := by split at hn <;> simp_all
    exact pinned_of_view hg G hdef hp hk
  · intro w s₀ s₁ mg mb G Y args vs as hpre hlay L low
    obtain ⟨a, o, pm, cd, doc, dV, kV, h1, h2, h3, h4, h5⟩ := G.fn hdef
    exact ⟨.ref a, h1, call w s₀ s₁ mg mb G Y a o pm cd doc dV kV h2 h3 h4 h5 (defOf_name hdef ▸ h1) L.gens args vs as hpre hlay L.reads L.well (L.low low)⟩
end Mine.H

end
section
set_option maxRecDepth 100000
set_option maxHeartbeats 8000000
namespace Mine.H
open _root_.PySem _root_.PySem.W PyProof.Rows
open_top hd for PySem.Challenge.rw_hp0001_01
end Mine.H

end
section
set_option maxRecDepth 100000
namespace Mine
open PySem PySem.W PySem.Calls PyProof.Rows

/-! ## states, growth, data -/
structure Rst where
  G : Array GenState
  D : Drawn
  O : OsState
abbrev Rst.st (r : Rst) (h : Heap) (t : Nat) : Shared := ⟨h, r.G, r.D, t, r.O⟩
def Le (h h' : Heap) : Prop := ∀ b o, h.get? b = some o → h'.get? b = some o
theorem Le.refl (h : Heap) : Le h h := fun _ _ e => e
theorem Le.trans {a b c : Heap} (x : Le a b) (y : Le b c) : Le a c := fun b o e => y b o (x b o e)
theorem Le.push (h : Heap) (o : Obj) : Le h (h.push o) := fun _ _ e => Heap.get?_push_of_some _ e
def TK (h h' : Heap) : Prop := ∀ a o xs n, h.get? a = some o → o.cls = .type "tuple" → o.data = .seq xs n → h'.get? a = some o
theorem Le.tk {h h' : Heap} (x : Le h h') : TK h h' := fun a o _ _ e _ _ => x a o e
theorem TK.trans {a b c : Heap} (x : TK a b) (y : TK b c) : TK a c := fun p o xs n e e1 e2 => y p o xs n (x p o xs n e e1 e2) e1 e2
theorem TK.but {h h' : Heap} {b : Addr} (x : Heap.ExtBut b h h') (nb : ∀ o xs n, h.get? b = some o → o.cls = .type "tuple" → o.data = .seq xs n → False) : TK h h' := fun a o xs n e e1 e2 => by
  by_cases q : a = b
  · subst q; exact (nb o xs n e e1 e2).elim
  · exact x a o q e

theorem TK.ns {h h' : Heap} {b : Addr} {m : Str → Option Value} (n : h.Ns b m) (x : Heap.ExtBut b h h') : TK h h' := TK.but x fun o xs k e _ q => by
  obtain ⟨o', _, _, e', q', _⟩ := n
  rw [e'] at e; cases e; rw [q'] at q; cases q
theorem TK.pl {h h' : Heap} {b : Addr} {ys : Array Value} (n : h.PlainList b ys) (x : Heap.ExtBut b h h') : TK h h' := TK.but x fun o xs k e c _ => by
  obtain ⟨n', e'⟩ := n
  rw [e'] at e; cases e; exact absurd c (by simp)

inductive Dt where
  | int (i : Int)
  | str (s : Str)
  | bts (l : List Nat)
  | tup (l : List Dt)
def mkB (l : List Nat) : Array UInt8 := (l.map Nat.toUInt8).toArray
mutual
inductive DV (h : Heap) : Value → Dt → Prop
  | int (i : Int) (t : Tok) : DV h (.int i t) (.int i)
  | str (s : Str) (t : Tok) : DV h (.str s t) (.str s)
  | bts (l : List Nat) (t : Tok) (hl : ∀ x ∈ l, x < 256) : DV h (.bytes (mkB l) t) (.bts l)
  | tup {a : Addr} {vs : List Value} {ds : List Dt} (ha : IsTup h a vs.toArray) (hd : DVs h vs ds) : DV h (.ref a) (.tup ds)
inductive DVs (h : Heap) : List Value → List Dt → Prop
  | nil : DVs h [] []
  | cons {v : Value} {d : Dt} {vs : List Value} {ds : List Dt} : DV h v d → DVs h vs ds → DVs h (v :: vs) (d :: ds)
end
theorem IsTup.tk {h h' : Heap} {a : Addr} {vs : Array Value} (x : IsTup h a vs) (k : TK h h') : IsTup h' a vs := by
  obtain ⟨o, ho, hc, n, hd⟩ := x
  exact ⟨o, k a o _ _ ho hc hd, hc, n, hd⟩
mutual
theorem DV.tk {h h' : Heap} (k : TK h h') : ∀ {v : Value} {d : Dt}, DV h v d → DV h' v d
  | _, _, .int i t => .int i t
  | _, _, .str s t => .str s t
  | _, _, .bts l t hl => .bts l t hl
  | _, _, .tup ha hd => .tup (Mine.IsTup.tk ha k) (DVs.tk k hd)
theorem DVs.tk {h h' : Heap} (k : TK h h') : ∀ {vs : List Value} {ds : List Dt}, DVs h vs ds → DVs h' vs ds
  | _, _, .nil => .nil
  | _, _, .cons a b => .cons (DV.tk k a) (DVs.tk k b)
end
theorem DV.le {h h' : Heap} (k : Le h h') {v : Value} {d : Dt} (x : DV h v d) : DV h' v d := x.tk k.tk
theorem DVs.le {h h' : Heap} (k : Le h h') {vs : List Value} {ds : List Dt} (x : DVs h vs ds) : DVs h' vs ds := x.tk k.tk
theorem DVs.length {h : Heap} {vs : List Value} {ds : List Dt} (x : DVs h vs ds) : vs.length = ds.length := by
  induction vs generalizing ds with
  | nil => cases x; rfl
  | cons v vs ih => cases x with | cons a b => simp [ih b]
theorem DVs.snoc {h : Heap} {vs : List Value} {ds : List Dt} {v : Value} {d : Dt} (x : DVs h vs ds) (y : DV h v d) : DVs h (vs ++ [v]) (ds ++ [d]) := by
  induction vs generalizing ds with
  | nil => cases x; exact .cons y .nil
  | cons u vs ih => cases x with | cons a b => exact .cons a (ih b)
theorem DVs.get {h : Heap} {vs : List Value} {ds : List Dt} (x : DVs h vs ds) {i : Nat} {v : Value} (e : vs[i]? = some v) : ∃ d, ds[i]? = some d ∧ DV h v d := by
  induction vs generalizing ds i with
  | nil => simp at e
  | cons u vs ih =>
    cases x with
    | cons a b =>
      cases i with
      | zero => simp at e; subst e; exact ⟨_, rfl, a⟩
      | succ i => simp at e; simpa using ih b e
theorem DVs.at {h : Heap} {vs : List Value} {ds : List Dt} (x : DVs h vs ds) {i : Nat} {d : Dt} (e : ds[i]? = some d) : ∃ v, vs[i]? = some v ∧ DV h v d := by
  induction vs generalizing ds i with
  | nil => cases x; simp at e
  | cons u vs ih =>
    cases x with
    | cons a b =>
      cases i with
      | zero => simp at e; subst e; exact ⟨_, rfl, a⟩
      | succ i => simp at e; simpa using ih b e
theorem DVs.ints {h : Heap} : ∀ {vs : List Value} {ns : List Int}, DVs h vs (ns.map Dt.int) → IntsAre vs ns
  | _, [], x => by cases x; exact .nil
  | _, n :: ns, x => by
    cases x with
    | cons a b => cases a with | int i t => exact .cons _ _ (DVs.ints b)
theorem DVs.ofInts {h : Heap} {vs : List Value} {ns : List Int} (x : IntsAre vs ns) : DVs h vs (ns.map Dt.int) := by
  induction x with
  | nil => exact .nil
  | cons n t _ ih => exact .cons (.int _ _) ih

/-! ## trees that only add -/
section
variable {α β : Type} {prog : Program} {w : World} {A : Around} {h₀ : Heap}
def Ev (prog : Program) (w : World) (A : Around) (h₀ : Heap) (t : Sem α) (φ : Heap → α → Heap → Prop) : Prop :=
  ∀ (r : Rst) (h : Heap) (tk : Nat) (Q : α → Shared → Prop) (E : Value → Shared → Prop), Le h₀ h → (∀ a h' tk', Le h h' → φ h a h' → Q a (r.st h' tk')) → wpAny (model prog w) A t Q E (r.st h tk)
theorem Ev.mono {t : Sem α} {φ ψ : Heap → α → Heap → Prop} (x : Ev prog w A h₀ t φ) (k : ∀ h a h', Le h₀ h → Le h h' → φ h a h' → ψ h a h') : Ev prog w A h₀ t ψ :=
  fun r h tk Q E hl q => x r h tk Q E hl fun a h' tk' l f => q a h' tk' l (k h a h' hl l f)
theorem Ev.lift {h₁ : Heap} {t : Sem α} {φ : Heap → α → Heap → Prop} (x : Ev prog w A h₀ t φ) (k : Le h₀ h₁) : Ev prog w A h₁ t φ :=
  fun r h tk Q E hl q => x r h tk Q E (k.trans hl) q
theorem Ev.seq {m : Sem α} {f : α → Sem β} {φ : Heap → α → Heap → Prop} {ψ : Heap → β → Heap → Prop} (x : Ev prog w A h₀ m φ)
    (y : ∀ h a h', Le h₀ h → Le h h' → φ h a h' → Ev prog w A h' (f a) (fun _ b h'' => ψ h b h'')) : Ev prog w A h₀ (m >>= f) ψ :=
  fun r h tk Q E hl q => wpAny_bind (x r h tk _ E hl fun a h' tk' l p => y h a h' hl l p r h' tk' Q E (Le.refl _) fun b h'' tk'' l' p' => q b h'' tk'' (l.trans l') p')
theorem Ev.ret {a : α} {φ : Heap → α → Heap → Prop} (x : ∀ h, Le h₀ h → φ h a h) : Ev prog w A h₀ (Pure.pure a) φ :=
  fun _ h _ _ _ hl q => wpAny_pure (q a h _ (Le.refl _) (x h hl))
theorem Ev.use {t : Sem α} {φ : Heap → α → Heap → Prop} (x : Ev prog w A h₀ t φ) {r : Rst} {h : Heap} {tk : Nat} {Q : α → Shared → Prop} {E : Value → Shared → Prop} (hl : Le h₀ h)
    (q : ∀ a h' tk', Le h h' → φ h a h' → Q a (r.st h' tk')) : wpAny (model prog w) A t Q E (r.st h tk) := x r h tk Q E hl q
end

/-! ## names -/
inductive NameIs (env : Env) (h : Heap) (x : Str) (v : Value) : Prop
  | loc {m : Str → Option Value} : env.scope.kind = .function → env.kindOf x = some .local → h.Ns env.locals m → m x = some v → NameIs env h x v
  | cell {c : Addr} : env.scope.kind = .function → env.kindOf x = some .cell → env.cells.lookup x = some c → h.IsCell c (some v) → NameIs env h x v
  | free {c : Addr} : env.scope.kind = .function → env.kindOf x = some .free → env.cells.lookup x = some c → h.IsCell c (some v) → (x == ("__classdict__" : Str)) = false → NameIs env h x v
def Bs (w : World) (h : Heap) : Prop := (H.hd.heap_39 w.params).In h ∧ ∃ p loose mg mb, TopRead p loose mg mb h
theorem Bs.le {w : World} {h h' : Heap} (x : Bs w h) (k : Le h h') : Bs w h' := ⟨x.1.keeps k, let ⟨p, l, mg, mb, T⟩ := x.2; ⟨p, l, mg, mb, T.keeps k⟩⟩
theorem Bs.lim {w : World} {h : Heap} (x : Bs w h) : h.NoLimit := let ⟨_, _, _, _, T⟩ := x.2; T.nolimit
theorem NameIs.le {env : Env} {h h' : Heap} {x : Str} {v : Value} (n : NameIs env h x v) (k : Le h h') : NameIs env h' x v := by
  cases n with
  | loc a b c d => exact .loc a b (c.keeps k) d
  | cell a b c d => exact .cell a b c (d.keeps k)
  | free a b c d e => exact .free a b c (d.keeps k) e
section
variable {prog : Program} {w : World} {A : Around} {h₀ : Heap} {env : Env}
theorem Ev.name {x : Str} {pos : Pos} {v : Value} (n : NameIs env h₀ x v) (hd : (x == ("__debug__" : Str)) = false := by decide) : Ev prog w A h₀ (eval (.Name x pos) env) (fun _ y _ => y = v) := by
  intro r h tk Q E hl q
  have n := n.le hl
  refine wpAny_Name ?_ hd
  cases n with
  | loc a b c d => exact wpAny_loadName_local a b c d (q v h tk (Le.refl _) rfl)
  | cell a b c d => exact wpAny_loadName_cell a b c d (q v h tk (Le.refl _) rfl)
  | free a b c d e => exact wpAny_loadName_free a b c d (q v h tk (Le.refl _) rfl) e
theorem Ev.glob {x : Str} {pos : Pos} {v : Value} (B : Bs w h₀) (e : nsIn (H.hd.heap_39 w.params) mainGlobals x = some (some v)) (hk : env.scope.kind = .function) (hx : env.kindOf x = some .globalImplicit)
    (hg : env.globals = mainGlobals) (hd : (x == ("__debug__" : Str)) = false := by decide) : Ev prog w A h₀ (eval (.Name x pos) env) (fun _ y _ => y = v) := by
  intro r h tk Q E hl q
  obtain ⟨X, p, loose, mg, mb, T⟩ := B.le hl
  exact Name_function_global hk hx (loadGlobal_global (env := env) (mg := mg) (by rw [hg]; exact T.g) (mg_of X T.g e) (q v h tk (Le.refl _) rfl)) hd
theorem Ev.boot {x : Str} {pos : Pos} {v : Value} (B : Bs w h₀) (e : nsIn (H.hd.heap_39 w.params) mainGlobals x = some none) (hv : bootBuiltins x = some v) (hn : x ≠ "__name__") (hk : env.scope.kind = .function) (hx : env.kindOf x = some .globalImplicit)
    (hg : env.globals = mainGlobals) (hb : env.builtins = builtinsNs) (hd : (x == ("__debug__" : Str)) = false := by decide) : Ev prog w A h₀ (eval (.Name x pos) env) (fun _ y _ => y = v) := by
  intro r h tk Q E hl q
  obtain ⟨X, p, loose, mg, mb, T⟩ := B.le hl
  exact Name_function_global hk hx (loadGlobal_builtin (env := env) (mg := mg) (mb := mb) (by rw [hg]; exact T.g) (mg_none_of X T.g e) (by rw [hb]; exact T.b) ((T.builtins x hn).trans hv) (q v h tk (Le.refl _) rfl)) hd
end
end Mine

end
section
set_option maxRecDepth 100000
namespace Mine
open PySem PySem.W PySem.Calls PyProof.Rows

def IsL (h : Heap) (y : Value) (h' : Heap) (ds : List Dt) : Prop := ∃ a vs, y = .ref a ∧ h.get? a = none ∧ h'.PlainList a vs.toArray ∧ DVs h' vs ds
def LT (ds : List Dt) : Heap → Value → Heap → Prop := fun h y h' => IsL h y h' ds
def DT (d : Dt) : Heap → Value → Heap → Prop := fun _ y h' => DV h' y d
def BT (b : Bool) : Heap → Value → Heap → Prop := fun _ y _ => y = .bool b

/-! ## sources of a walk -/
def IterOf (prog : Program) (w : World) (A : Around) (hb : Heap) (it : Value) (h : Heap) (ds : List Dt) : Prop :=
  ∃ (I : Addr) (fp wr : List Addr) (P : Nat → Value → Prop) (Sx : Nat → Heap → Prop), it = .ref I ∧ Walks prog w A I fp wr ds.length P Sx ∧ Sx 0 h ∧ (∀ b ∈ fp, b < h.objs.size) ∧ (∀ b ∈ wr, hb.get? b = none) ∧
    (∀ i h', Sx i h' → ∀ b ∈ wr, ∀ o xs n, h'.get? b = some o → o.cls = .type "tuple" → o.data = .seq xs n → False) ∧ (∀ i v, i < ds.length → P i v → ∃ d, ds[i]? = some d ∧ DV hb v d)
def Sr (prog : Program) (w : World) (A : Around) (h₀ : Heap) (t : Sem Value) (ds : List Dt) : Prop :=
  ∀ (r : Rst) (h : Heap) (tk : Nat) (Q : Value → Shared → Prop) (E : Value → Shared → Prop), Le h₀ h → (∀ it h' tk', Le h h' → IterOf prog w A h it h' ds → Q it (r.st h' tk')) → wpAny (model prog w) A t (fun xv s₁ => wpAny (model prog w) A (pyIter xv) Q E s₁) E (r.st h tk)

section
variable {prog : Program} {w : World} {A : Around} {h₀ : Heap} {env : Env}

theorem IterOf.mk {A : Around} {hb h : Heap} {ds : List Dt} (I : Addr) (fp wr : List Addr) (P : Nat → Value → Prop) (Sx : Nat → Heap → Prop) (W : Walks prog w A I fp wr ds.length P Sx) (h0 : Sx 0 h) (h1 : ∀ b ∈ fp, b < h.objs.size) (h2 : ∀ b ∈ wr, hb.get? b = none)
    (h3 : ∀ i h', Sx i h' → ∀ b ∈ wr, ∀ o xs n, h'.get? b = some o → o.cls = .type "tuple" → o.data = .seq xs n → False) (h4 : ∀ i v, i < ds.length → P i v → ∃ d, ds[i]? = some d ∧ DV hb v d) : IterOf prog w A hb (.ref I) h ds :=
  ⟨I, fp, wr, P, Sx, rfl, W, h0, h1, h2, h3, h4⟩
theorem fresh_size (h : Heap) : h.get? h.objs.size = none := Heap.get?_none_of_le (Nat.le_refl _)

theorem Sr.list {t : Sem Value} {l : Addr} {vs : List Value} {ds : List Dt} (hh : A.handled = none) (x : Ev prog w A h₀ t (fun _ y _ => y = .ref l)) (hl : h₀.IsList l vs.toArray) (hd : DVs h₀ vs ds) : Sr prog w A h₀ t ds := by
  intro r h tk Q E hle q
  refine x r h tk _ E hle fun y h' tk' k e => ?_
  subst e
  have hl' : h'.IsList l vs.toArray := hl.at fun o e => k _ o (hle _ o e)
  have hl0 : h.IsList l vs.toArray := hl.at fun o e => hle _ o e
  refine wpAny_pyIter_list hl' (q _ _ _ (k.trans (Le.push _ _)) ?_)
  have hlt : l < h'.objs.size := by obtain ⟨o, ho, _⟩ := hl'; exact Heap.lt_size ho
  refine IterOf.mk h'.objs.size [h'.objs.size, l] [h'.objs.size] (fun i v => vs.toArray[i]? = some v) (fun i h => h.IsListIter h'.objs.size l i ∧ h.IsList l vs.toArray) ?_ ⟨⟨_, Heap.get?_push_size _ rfl, rfl, rfl⟩, hl'.push _⟩ ?_ ?_ ?_ ?_
  · have W := Walks.list (prog := prog) (w := w) (A := A) hh h'.objs.size l (Nat.ne_of_lt hlt) vs.toArray
    rw [show vs.toArray.size = ds.length by simp [hd.length]] at W
    exact W
  · intro b hb
    rw [Heap.size_push]
    rcases List.mem_cons.mp hb with rfl | hb
    · exact Nat.lt_succ_self _
    · rw [List.mem_singleton.mp hb]; exact Nat.lt_succ_of_lt hlt
  · intro b hb
    rw [List.mem_singleton.mp hb]
    cases e : h.get? h'.objs.size with
    | none => rfl
    | some o => exact absurd (Heap.lt_size (k _ _ e)) (Nat.lt_irrefl _)
  · rintro i h2 ⟨⟨o2, e2, c2, _⟩, _⟩ b hb o xs n e c _
    rw [List.mem_singleton.mp hb, e2] at e
    cases e
    rw [c2] at c
    exact absurd c (by decide)
  · intro i v _ hv
    obtain ⟨d, h1, h2⟩ := hd.get (i := i) (v := v) (by simpa using hv)
    exact ⟨d, h1, h2.le hle⟩
theorem Sr.bts {t : Sem Value} {l : List Nat} (hh : A.handled = none) (x : Ev prog w A h₀ t (DT (.bts l))) : Sr prog w A h₀ t (l.map fun i => .int (Int.ofNat i)) := by
  intro r h tk Q E hle q
  refine x r h tk _ E hle fun y h' tk' k e => ?_
  cases e with
  | bts _ u hlt =>
  refine KBw.pyIter_bytes (q _ _ _ (k.trans (Le.push _ _)) ?_)
  refine IterOf.mk h'.objs.size [h'.objs.size] [h'.objs.size] (fun i v => ∃ c u, (mkB l)[i]? = some c ∧ v = .int (c.toNat : Int) u) (fun i h => KBw.IsBytesIter h h'.objs.size (mkB l) u i) ?_ ⟨_, Heap.get?_push_size _ rfl, rfl, rfl⟩ ?_ ?_ ?_ ?_
  · exact cast (by congr 1; simp [mkB]) (KBw.walks (prog := prog) (w := w) (A := A) hh h'.objs.size (mkB l) u)
  · intro b hb
    rw [Heap.size_push, List.mem_singleton.mp hb]; exact Nat.lt_succ_self _
  · intro b hb
    rw [List.mem_singleton.mp hb]
    cases e : h.get? h'.objs.size with
    | none => rfl
    | some o => exact absurd (Heap.lt_size (k _ _ e)) (Nat.lt_irrefl _)
  · rintro i h2 ⟨o2, e2, c2, _⟩ b hb o xs n e c _
    rw [List.mem_singleton.mp hb, e2] at e
    cases e
    rw [c2] at c
    exact absurd c (by decide)
  · rintro i v _ ⟨c, u', hc, rfl⟩
    have hl : l[i]? = some c.toNat := by
      simp only [mkB, List.getElem?_toArray, List.getElem?_map, Option.map_eq_some_iff] at hc
      obtain ⟨n, hn, rfl⟩ := hc
      rw [hn]
      have := hlt n (List.mem_of_getElem? hn)
      simp [Nat.mod_eq_of_lt this]
    refine ⟨.int (Int.ofNat c.toNat), by simp [hl], .int _ _⟩
theorem Sr.range {t : Sem Value} {n : Nat} (hh : A.handled = none) (hn : n < 2 ^ 40) {φ : Heap → Value → Heap → Prop} (x : Ev prog w A h₀ t φ) (hx : ∀ h y h', φ h y h' → ∃ l t u v, y = .ref l ∧ IsRange h' l 0 n 1 t u v) :
    Sr prog w A h₀ t ((List.range n).map fun i => .int (Int.ofNat i)) := by
  intro r h tk Q E hle q
  refine x r h tk _ E hle fun y h' tk' k e => ?_
  obtain ⟨l, t, u, v, rfl, hr⟩ := hx _ _ _ e
  have hsz : Builtin.Range.rangeSize 0 n 1 = (n : Int) := by
    have := rangeSize_nat 0 n
    simpa using this
  refine wpAny_pyIter_range hr (small_one (by omega) (by omega) (by omega) (by omega)) (q _ _ _ (k.trans (Le.push _ _)) ?_)
  rw [hsz]
  refine IterOf.mk h'.objs.size [h'.objs.size] [h'.objs.size] (fun i v => ∃ t, v = .int (0 + i * 1) t) (fun i h => IsRangeIter h h'.objs.size (0 + (i : Nat) * 1) ((n : Int) - (i : Nat)) 1) ?_ ?_ ?_ ?_ ?_ ?_
  · simpa using Walks.range (prog := prog) (w := w) (A := A) hh h'.objs.size 0 1 n
  · have := Heap.get?_push_size h' (o := ({ cls := .type "range_iterator", data := .fields #[rawInt 0, rawInt n, rawInt 1] } : Obj)) rfl
    simpa [IsRangeIter] using this
  · intro b hb
    rw [Heap.size_push, List.mem_singleton.mp hb]; exact Nat.lt_succ_self _
  · intro b hb
    rw [List.mem_singleton.mp hb]
    cases e : h.get? h'.objs.size with
    | none => rfl
    | some o => exact absurd (Heap.lt_size (k _ _ e)) (Nat.lt_irrefl _)
  · rintro i h2 e2 b hb o xs n e c _
    unfold IsRangeIter at e2
    rw [List.mem_singleton.mp hb, e2] at e
    cases e
    exact absurd c (by simp)
  · rintro i v hi ⟨t, rfl⟩
    have hi' : i < n := by simpa using hi
    exact ⟨.int (Int.ofNat i), by simp [hi'], by simpa using DV.int (Int.ofNat i) t⟩

/-! ## list comprehensions that only add -/
theorem size_le_of {n : Nat} (h : n ≤ 2 ^ 20) : n ≤ sizeLine := by rw [sizeLine_eq]; omega
theorem comp_block {elt iter : Expr} {x : Str} {px : Pos} {ifs : List Expr} {scope : Scope} {pos : Pos} {cl : List (Str × Addr)} {ds : List Dt} (p : Dt → Bool) (f : Dt → Dt)
    (hcell : ∀ y ∈ scope.names, y.2 ≠ .cell) (hkind : scope.kind = .function) (hx : scope.names.lookup x = some .local) (hlen : ds.length ≤ 2 ^ 20) {hb : Heap}
    (htest : ∀ d ∈ ds, ∀ C v h m, Le hb h → DV h v d → h.Ns C m → m x = some v → Ev prog w A h (forIn ifs true fun c r => if r = true then do let ok ← isTrue c (compEnvC scope cl C env) (eval c (compEnvC scope cl C env)); pure (ForInStep.yield ok) else pure (ForInStep.yield r)) (fun _ b _ => b = p d))
    (helt : ∀ d ∈ ds, p d = true → ∀ C v h m, Le hb h → DV h v d → h.Ns C m → m x = some v → Ev prog w A h (eval elt (compEnvC scope cl C env)) (DT (f d)))
    {it : Value} {h : Heap} {tk : Nat} {r : Rst} {E : Value → Shared → Prop} {RR : Value → Addr → Result → Shared → Prop} (hbh : Le hb h) (W : IterOf prog w A hb it h ds)
    (hRR : ∀ D C h' tk' m' vs, hb.get? D = none → D ≠ C → hb.get? C = none → h'.Ns C m' → h'.PlainList D vs.toArray → DVs h' vs ((ds.filter p).map f) → Le hb h' → RR (.ref D) C (.ok .next) (r.st h' tk')) :
    wpAny (model prog w) A (newList []) (fun acc s₃ => wpAny (model prog w) A (newFunctionEnv scope env.globals cl [] env.qual none .none (some env)) (fun cenv s₄ =>
      codeAny (model prog w) A (.compStart (.ListComp elt [⟨.Name x px, iter, ifs, 0⟩] scope pos) 0 it acc { cenv with scope := relabel scope env }) (RR acc cenv.locals) s₄) E s₃) E (r.st h tk) := by
  obtain ⟨I, fp, wr, P, Sx, rfl, W, hst, hfp, hwr, hwt, hP⟩ := W
  refine wpAny_newObj_type (wpAny_newFunctionEnv hcell (by intro y hy; simp at hy) (fun h₁ hns₁ hsb₁ => ?_) hkind)
  dsimp only at hns₁ hsb₁ ⊢
  generalize hH2 : h.push { cls := .type "list", dict := none, data := .seq ([] : List Value).toArray } = H2 at hns₁ hsb₁ ⊢
  have hC : H2.objs.size = h.objs.size + 1 := by rw [← hH2, Heap.size_push]
  have hDC : h.objs.size ≠ H2.objs.size := by rw [hC]; exact Nat.ne_of_lt (Nat.lt_succ_self _)
  have below : ∀ b, b < h.objs.size → b ≠ H2.objs.size ∧ b ≠ h.objs.size := fun b hb => ⟨by rw [hC]; exact Nat.ne_of_lt (Nat.lt_succ_of_lt hb), Nat.ne_of_lt hb⟩
  have hDf : h.objs.size ∉ fp := fun hm => Nat.lt_irrefl _ (hfp _ hm)
  have hCf : H2.objs.size ∉ fp := fun hm => by have := hfp _ hm; rw [hC] at this; exact Nat.lt_irrefl _ (Nat.lt_of_succ_lt this)
  have old : Le h h₁ := fun b o e => hsb₁.extBut b o (below b (Heap.lt_size e)).1 (Heap.get?_push_of_some _ (hH2 ▸ Heap.get?_push_of_some _ e))
  have hacc : h₁.PlainList h.objs.size #[] := ⟨_, hsb₁.extBut _ _ hDC (Heap.get?_push_of_some _ (hH2 ▸ Heap.get?_push_size _ rfl))⟩
  have hst₁ : Sx 0 h₁ := W.frame _ _ _ hst fun b _ o e => old b o e
  have hDn : hb.get? h.objs.size = none := by
    cases e : hb.get? h.objs.size with
    | none => rfl
    | some o => exact absurd (Heap.lt_size (hbh _ _ e)) (Nat.lt_irrefl _)
  have hCn : hb.get? H2.objs.size = none := by
    cases e : hb.get? H2.objs.size with
    | none => rfl
    | some o => have : H2.objs.size < h.objs.size := Heap.lt_size (hbh _ _ e)
                rw [hC] at this; omega
  have hDw : h.objs.size ∉ wr := fun q => hDf (W.sub _ q)
  have hCw : H2.objs.size ∉ wr := fun q => hCf (W.sub _ q)
  have loop : ∀ tk₀, codeAny (model prog w) A (.compLoop (.ListComp elt [⟨.Name x px, iter, ifs, 0⟩] scope pos) 0 (.ref I) (.ref h.objs.size) (compEnvC scope cl H2.objs.size env)) (RR (.ref h.objs.size) H2.objs.size) (r.st h₁ tk₀) := by
    intro tk₀
    refine codeAny_compLoop_tests
      (fun k s' => ∃ h' tk m' vs, ∃ i : Nat, s' = r.st h' tk ∧ i ≤ ds.length ∧ k = ds.length + 1 - i ∧ Sx i h' ∧ h'.PlainList h.objs.size vs.toArray ∧ h'.Ns H2.objs.size m' ∧ DVs h' vs (((ds.take i).filter p).map f) ∧ Le hb h') ?_ (ds.length + 1)
      ⟨h₁, tk₀, _, [], 0, rfl, Nat.zero_le _, rfl, hst₁, hacc, hns₁, .nil, hbh.trans old⟩
    rintro k s' ⟨H, tk, m', vs, i, rfl, hi, rfl, hs', ha', hn', hD', hk'⟩
    by_cases hlt : i < ds.length
    · refine W.item i _ _ _ hlt hs' fun v h₂ tk₂ hPv hst₂ hk₂ => ?_
      obtain ⟨d, hd, hv⟩ := hP i v hlt hPv
      have hdm : d ∈ ds := List.mem_of_getElem? hd
      have hn₂ : h₂.Ns H2.objs.size m' := hn'.at' fun o e => hk₂ _ o hCw e
      refine wpAny_assign_Name (wpAny_storeName_local (env := compEnvC scope cl H2.objs.size env) (lookup_relabel_local hx) hn₂ (fun h₃ hn₃ hs₃ => ?_) (by simp [compEnvC, relabel, hkind]))
      have hb₂ : Le hb h₂ := fun b o e => hk₂ b o (fun q => by rw [hwr b q] at e; cases e) (hk' b o e)
      have hb₃ : Le hb h₃ := fun b o e => hs₃.extBut b o (fun (q : b = H2.objs.size) => by rw [q, hCn] at e; cases e) (hb₂ b o e)
      have t₂ : TK H h₂ := fun a o xs n e c q => hk₂ a o (fun z => hwt i H hs' a z o xs n e c q) e
      have t₃ : TK h₂ h₃ := TK.ns hn₂ hs₃.extBut
      have hst₃ : Sx (i + 1) h₃ := W.frame _ _ _ hst₂ fun b hb' o e => hs₃.extBut b o (fun (q : b = H2.objs.size) => hCf (q ▸ hb')) e
      have ha₃ : h₃.PlainList h.objs.size vs.toArray := (ha'.at fun o e => hk₂ _ o hDw e).extBut hs₃.extBut hDC
      have hD₃ := hD'.tk (t₂.trans t₃)
      refine htest d hdm H2.objs.size v h₃ _ hb₃ (hv.le hb₃) hn₃ (by simp) r h₃ _ _ _ (Le.refl _) fun ok h₄ tk₄ k₄ hok => ?_
      subst hok
      have tks : ds.take (i + 1) = ds.take i ++ [d] := by rw [List.take_add_one, hd]; rfl
      cases hp : p d with
      | false =>
        simp only [Bool.false_eq_true, if_false]
        refine ⟨_, ?_, h₄, tk₄, _, vs, i + 1, rfl, hlt, rfl, W.frame _ _ _ hst₃ fun b _ o e => k₄ b o e, ha₃.at fun o e => k₄ _ o e, hn₃.keeps k₄, ?_, hb₃.trans k₄⟩
        · omega
        · rw [tks]; simpa [hp] using hD₃.le k₄
      | true =>
        simp only [if_true]
        refine helt d hdm hp H2.objs.size v h₄ _ (hb₃.trans k₄) (hv.le (hb₃.trans k₄)) (hn₃.keeps k₄) (by simp) r h₄ _ _ _ (Le.refl _) fun y h₅ tk₅ k₅ hy => ?_
        have ha₅ : h₅.PlainList h.objs.size vs.toArray := ha₃.at fun o e => k₅ _ o (k₄ _ o e)
        have hvs : vs.length ≤ 2 ^ 20 := by
          have e1 := hD₃.length
          have e2 := List.length_filter_le p (ds.take i)
          simp only [List.length_map, List.length_take] at e1 e2
          omega
        refine wpAny_list_append_plain ha₅ (fun h₆ hl₆ hs₆ => ?_) (size_le_of (by simpa using hvs))
        have t₆ : TK h₅ h₆ := TK.pl ha₅ hs₆.extBut
        refine ⟨_, ?_, h₆, tk₅, _, vs ++ [y], i + 1, rfl, hlt, rfl, ?_, by simpa using hl₆, (hn₃.keeps (k₄.trans k₅)).sameBut hs₆ (Ne.symm hDC), ?_, ?_⟩
        · omega
        · exact W.frame _ _ _ hst₃ fun b hb' o e => hs₆.extBut b o (fun q => hDf (q ▸ hb')) (k₅ b o (k₄ b o e))
        · rw [tks]
          have := ((hD₃.le (k₄.trans k₅)).snoc hy).tk t₆
          simpa [hp] using this
        · exact fun b o e => hs₆.extBut b o (fun q => by subst q; rw [hDn] at e; cases e) (k₅ b o (k₄ b o (hb₃ b o e)))
    · have hin : i = ds.length := by omega
      subst hin
      refine W.done _ _ _ hs' fun h₂ tk₂ hk₂ => ?_
      have t₂ : TK H h₂ := fun a o xs n e c q => hk₂ a o (fun z => hwt _ H hs' a z o xs n e c q) e
      refine hRR _ _ h₂ tk₂ m' vs hDn hDC hCn (hn'.at' fun o e => hk₂ _ o hCw e) (ha'.at fun o e => hk₂ _ o hDw e) ?_ fun b o e => hk₂ b o (fun q => by rw [hwr b q] at e; cases e) (hk' b o e)
      have := hD'.tk t₂
      rwa [List.take_length] at this
  exact codeAny_compStart_list (loop _) (W.self 0 _ _ _ hst₁ (loop _))

theorem Ev.comp {elt iter : Expr} {x : Str} {px : Pos} {ifs : List Expr} {scope : Scope} {pos : Pos} {cl : List (Str × Addr)} {ds : List Dt} (p : Dt → Bool) (f : Dt → Dt)
    (hsrc : Sr prog w A h₀ (eval iter env) ds)
    (hclos : closureFor scope env = Pure.pure cl) (hcell : ∀ y ∈ scope.names, y.2 ≠ .cell) (hkind : scope.kind = .function)
    (hnames : ∀ y ∈ scope.names, y.2 = .local → scope.names.lookup y.1 = some .local) (hx : scope.names.lookup x = some .local) (hlen : ds.length ≤ 2 ^ 20)
    (htest : ∀ d ∈ ds, ∀ C v h m, Le h₀ h → DV h v d → h.Ns C m → m x = some v → Ev prog w A h (forIn ifs true fun c r => if r = true then do let ok ← isTrue c (compEnvC scope cl C env) (eval c (compEnvC scope cl C env)); pure (ForInStep.yield ok) else pure (ForInStep.yield r)) (fun _ b _ => b = p d))
    (helt : ∀ d ∈ ds, p d = true → ∀ C v h m, Le h₀ h → DV h v d → h.Ns C m → m x = some v → Ev prog w A h (eval elt (compEnvC scope cl C env)) (DT (f d)))
    (hs : ∀ x, foldedSetIterable iter env x = Pure.pure x := by intro _; rfl) :
    Ev prog w A h₀ (eval (.ListComp elt [⟨.Name x px, iter, ifs, 0⟩] scope pos) env) (LT ((ds.filter p).map f)) := by
  intro r h tk Q E hle q
  rw [eval_ListComp]
  refine wpAny_comprehension_free (use := none) rfl hs hclos hkind hnames ?_
  exact hsrc r h tk _ E hle
    fun it h' tk' k W => comp_block (RR := fun acc C => compPost (model prog w) A E none Q acc C) p f hcell hkind hx hlen (hb := h)
      (fun d hd C v h₁ m k₁ => htest d hd C v h₁ m (hle.trans k₁)) (fun d hd hp C v h₁ m k₁ => helt d hd hp C v h₁ m (hle.trans k₁)) k W
      fun D C h₂ tk₂ m' vs hD hDC hC hn hl hd hk => ⟨m', hn, fun h₃ hs₃ => q _ h₃ _ (fun b o e => hs₃.extBut b o (by rintro rfl; rw [hC] at e; cases e) (hk b o e))
        ⟨D, vs, rfl, hD, hl.extBut hs₃.extBut hDC, hd.tk (TK.ns hn hs₃.extBut)⟩⟩
theorem Ev.compE {elt iter : Expr} {x : Str} {px : Pos} {ifs : List Expr} {scope : Scope} {pos : Pos} {cl : List (Str × Addr)} {ds es : List Dt} (p : Dt → Bool) (f : Dt → Dt) (he : (ds.filter p).map f = es)
    (hclos : closureFor scope env = Pure.pure cl) (hcell : ∀ y ∈ scope.names, y.2 ≠ .cell) (hkind : scope.kind = .function)
    (hnames : ∀ y ∈ scope.names, y.2 = .local → scope.names.lookup y.1 = some .local) (hx : scope.names.lookup x = some .local) (hlen : ds.length ≤ 2 ^ 20)
    (hsrc : Sr prog w A h₀ (eval iter env) ds)
    (htest : ∀ d ∈ ds, ∀ C v h m, Le h₀ h → DV h v d → h.Ns C m → m x = some v → Ev prog w A h (forIn ifs true fun c r => if r = true then do let ok ← isTrue c (compEnvC scope cl C env) (eval c (compEnvC scope cl C env)); pure (ForInStep.yield ok) else pure (ForInStep.yield r)) (fun _ b _ => b = p d))
    (helt : ∀ d ∈ ds, p d = true → ∀ C v h m, Le h₀ h → DV h v d → h.Ns C m → m x = some v → Ev prog w A h (eval elt (compEnvC scope cl C env)) (DT (f d)))
    (hs : ∀ x, foldedSetIterable iter env x = Pure.pure x := by intro _; rfl) :
    Ev prog w A h₀ (eval (.ListComp elt [⟨.Name x px, iter, ifs, 0⟩] scope pos) env) (LT es) := he ▸ Ev.comp p f hsrc hclos hcell hkind hnames hx hlen htest helt hs
end
end Mine

end
section
set_option maxRecDepth 100000
namespace Mine
open PySem PySem.W PySem.Calls PyProof.Rows

section
variable {prog : Program} {w : World} {A : Around} {h₀ : Heap} {env : Env}
abbrev VE (v : Value) : Heap → Value → Heap → Prop := fun _ y _ => y = v

def Dn (χ : Heap → Value → Heap → Prop) : Prop := ∀ {h h' : Heap} {b : Value} {h'' : Heap}, Le h h' → χ h' b h'' → χ h b h''
theorem Dn.dt {d : Dt} : Dn (DT d) := fun _ x => x
theorem Dn.bt {d : Bool} : Dn (BT d) := fun _ x => x
theorem Dn.ve {d : Value} : Dn (VE d) := fun _ x => x
theorem none_of_le {h h' : Heap} {a : Addr} (k : Le h h') (n : h'.get? a = none) : h.get? a = none := by
  cases q : h.get? a with
  | none => rfl
  | some o => rw [k a o q] at n; cases n
theorem Dn.lt {ds : List Dt} : Dn (LT ds) := fun k ⟨a, vs, e, n, r⟩ => ⟨a, vs, e, none_of_le k n, r⟩

/-! ## constants -/
theorem Ev.cint {i : Int} {k : Nat} {pos : Pos} : Ev prog w A h₀ (eval (.Constant (.int i) k pos) env) (DT (.int i)) :=
  fun _ h _ _ _ _ q => wpAny_Constant_int (q _ h _ (Le.refl _) (.int _ _))
theorem Ev.cstr {x : Str} {k : Nat} {pos : Pos} : Ev prog w A h₀ (eval (.Constant (.str x) k pos) env) (DT (.str x)) :=
  fun _ h _ _ _ _ q => Constant_str (q _ h _ (Le.refl _) (.str _ _))
theorem Ev.dname {x : Str} {pos : Pos} {v : Value} {d : Dt} (n : NameIs env h₀ x v) (hv : DV h₀ v d) (hd : (x == ("__debug__" : Str)) = false := by decide) : Ev prog w A h₀ (eval (.Name x pos) env) (DT d) :=
  (Ev.name n hd).mono fun _ _ _ k l e => e ▸ hv.le (k.trans l)

/-! ## arithmetic of ints -/
theorem Ev.bin {op : Operator} {l r : Expr} {pos : Pos} {φ ψ χ : Heap → Value → Heap → Prop} (x : Ev prog w A h₀ (eval l env) φ)
    (y : ∀ h a h', Le h₀ h → Le h h' → φ h a h' → Ev prog w A h' (eval r env) (ψ)) 
    (z : ∀ h a h₁ b h₂, Le h₀ h → Le h h₁ → Le h₁ h₂ → φ h a h₁ → ψ h₁ b h₂ → Ev prog w A h₂ (binaryOp op a b) (fun _ c h₃ => χ h c h₃)) : Ev prog w A h₀ (eval (.BinOp l op r pos) env) χ := by
  intro s h tk Q E hl q
  exact wpAny_BinOp (x s h tk _ E hl fun a h₁ t₁ k₁ f₁ => y h a h₁ hl k₁ f₁ s h₁ t₁ _ E (Le.refl _) fun b h₂ t₂ k₂ f₂ => z h a h₁ b h₂ hl k₁ k₂ f₁ f₂ s h₂ t₂ _ E (Le.refl _) fun c h₃ t₃ k₃ f₃ => q c h₃ t₃ (k₁.trans (k₂.trans k₃)) f₃)
def BinI (prog : Program) (w : World) (A : Around) (op : Operator) (a b c : Int) : Prop := ∀ (s : Shared) (t u : Tok) (Q : Value → Shared → Prop) (E : Value → Shared → Prop), (∀ t' tk', Q (.int c t') { s with toks := tk' }) → wpAny (model prog w) A (binaryOp op (.int a t) (.int b u)) Q E s
theorem Ev.binI {op : Operator} {l r : Expr} {pos : Pos} {a b c : Int} (x : Ev prog w A h₀ (eval l env) (DT (.int a))) (y : Ev prog w A h₀ (eval r env) (DT (.int b))) (z : BinI prog w A op a b c) : Ev prog w A h₀ (eval (.BinOp l op r pos) env) (DT (.int c)) :=
  Ev.bin x (fun _ _ _ k l _ => y.lift (k.trans l)) fun h u h₁ v h₂ _ _ _ e f => by
    cases e
    cases f
    exact fun s h tk Q E _ q => z _ _ _ _ _ fun t' tk' => q _ _ _ (Le.refl _) (.int _ _)
theorem BinI.add (a b : Int) : BinI prog w A .Add a b (a + b) := fun _ _ _ _ _ q => add_int (q _ _)
theorem BinI.sub (a b : Int) : BinI prog w A .Sub a b (a - b) := fun _ _ _ _ _ q => sub_int (q _ _)
theorem BinI.mod {a b : Int} (h : b ≠ 0) : BinI prog w A .Mod a b (a.fmod b) := fun _ _ _ _ _ q => mod_int h (q _ _)

/-! ## subscripts -/
theorem Ev.sub {value slice : Expr} {pos : Pos} {φ ψ χ : Heap → Value → Heap → Prop} (x : Ev prog w A h₀ (eval value env) φ) (y : Ev prog w A h₀ (eval slice env) ψ)
    (z : ∀ h a h₁ b h₂, Le h₀ h → Le h h₁ → Le h₁ h₂ → φ h a h₁ → ψ h₁ b h₂ → Ev prog w A h₂ (subscriptTail value slice a b) (fun _ c h₃ => χ h c h₃)) : Ev prog w A h₀ (eval (.Subscript value slice pos) env) χ := by
  intro s h tk Q E hl q
  exact Subscript_ (x s h tk _ E hl fun a h₁ t₁ k₁ f₁ => y s h₁ t₁ _ E (hl.trans k₁) fun b h₂ t₂ k₂ f₂ => z h a h₁ b h₂ hl k₁ k₂ f₁ f₂ s h₂ t₂ _ E (Le.refl _) fun c h₃ t₃ k₃ f₃ => q c h₃ t₃ (k₁.trans (k₂.trans k₃)) f₃)
theorem mkB_getD (l : List Nat) (hl : ∀ x ∈ l, x < 256) {i n : Nat} (e : l[i]? = some n) : ((l.map Nat.toUInt8).getD i 0).toNat = n := by
  have hm := hl n (List.mem_of_getElem? e)
  simp [List.getD, e, Nat.mod_eq_of_lt hm]
theorem Ev.itemB {value slice : Expr} {pos : Pos} {l : List Nat} {i : Int} {n : Nat} (x : Ev prog w A h₀ (eval value env) (DT (.bts l))) (y : Ev prog w A h₀ (eval slice env) (DT (.int i))) (h0 : 0 ≤ i) (e : l[i.toNat]? = some n) (hlen : l.length ≤ 2 ^ 20)
    (hs : ∀ b t i ui, subscripted slice false (.bytes b t) (.int i ui) = operate [.bytes b t, .int i ui] (getItem (.bytes b t) (.int i ui)) := by intros; with_unfolding_all rfl)
    (ht : ∀ b t r, letTemporaryGo value (.bytes b t) r = pure () := by intros; with_unfolding_all rfl) : Ev prog w A h₀ (eval (.Subscript value slice pos) env) (DT (.int (Int.ofNat n))) := by
  refine Ev.sub x y fun h a h₁ b h₂ _ _ _ fa fb => ?_
  cases fa with | bts _ u hl =>
  cases fb with | int _ v =>
  intro s h tk Q E _ q
  have hi : i.toNat < l.length := (List.getElem?_eq_some_iff.mp e).1
  refine KBy.item_N (x := l.map Nat.toUInt8) (by simp; omega) h0 (by simp; omega) ?_ (hs _ _ _ _) (ht _ _)
  rw [mkB_getD l hl e]
  exact q _ _ _ (Le.refl _) (.int _ _)
theorem Ev.itemT {value slice : Expr} {pos : Pos} {ds : List Dt} {i : Int} {d : Dt} (x : Ev prog w A h₀ (eval value env) (DT (.tup ds))) (y : Ev prog w A h₀ (eval slice env) (DT (.int i))) (h0 : 0 ≤ i) (e : ds[i.toNat]? = some d) (hlen : ds.length ≤ 2 ^ 20)
    (hs : ∀ t i ui, subscripted slice false (.ref t) (.int i ui) = operate [.ref t, .int i ui] (getItem (.ref t) (.int i ui)) := by intros; with_unfolding_all rfl) : Ev prog w A h₀ (eval (.Subscript value slice pos) env) (DT d) := by
  refine Ev.sub x y fun h a h₁ b h₂ _ _ k fa fb => ?_
  cases fa with | tup ha hd =>
  cases fb with | int _ v =>
  intro s h tk Q E hl q
  have hi : i.toNat < ds.length := (List.getElem?_eq_some_iff.mp e).1
  obtain ⟨v, hv, hV⟩ := hd.at e
  have hlv := hd.length
  have ht := Mine.IsTup.tk ha (k.trans hl).tk
  have hj : seqIndex? i ds.length = some i.toNat := by
    have h2 : ((decide (0 ≤ i)) && (decide (i < (ds.length : Int)))) = true := by simp only [Bool.and_eq_true, decide_eq_true_eq]; omega
    unfold seqIndex?
    simp only [if_neg (show ¬ i < 0 by omega), h2, if_true]
  exact item_tupleT ht (by omega) (by omega) (j := i.toNat) (hlv ▸ hj) hv (q _ _ _ (Le.refl _) (hV.le (k.trans hl))) (hs _ _ _)
theorem Ev.itemL {value slice : Expr} {pos : Pos} {l : Addr} {vs : List Value} {ds : List Dt} {i : Int} {d : Dt} (x : Ev prog w A h₀ (eval value env) (VE (.ref l))) (hl : h₀.IsList l vs.toArray) (hd : DVs h₀ vs ds) (y : Ev prog w A h₀ (eval slice env) (DT (.int i))) (h0 : 0 ≤ i) (h1 : i < 2 ^ 20) (e : ds[i.toNat]? = some d)
    (hs : ∀ t i ui, subscripted slice false (.ref t) (.int i ui) = operate [.ref t, .int i ui] (getItem (.ref t) (.int i ui)) := by intros; with_unfolding_all rfl) : Ev prog w A h₀ (eval (.Subscript value slice pos) env) (DT d) := by
  refine Ev.sub x y fun h a h₁ b h₂ k₀ k₁ k fa fb => ?_
  subst fa
  cases fb with | int _ u =>
  intro s h tk Q E hle q
  obtain ⟨v, hv, hV⟩ := hd.at e
  have kk := k₀.trans (k₁.trans (k.trans hle))
  have hl' : h.IsList l vs.toArray := hl.at fun o e => kk _ o e
  exact tail_any hl'.typeIs slot_list_getitem.lookup (wpAny_getItem_list hl' h0 (by omega) (by simpa using hv) (q _ _ _ (Le.refl _) (hV.le kk))) (hs _ _ _)

/-! ## comparisons -/
theorem Ev.cmp {op : CmpOp} {l r : Expr} {pos : Pos} {φ ψ χ : Heap → Value → Heap → Prop} (x : Ev prog w A h₀ (eval l env) φ) (y : Ev prog w A h₀ (eval r env) ψ)
    (z : ∀ h a h₁ b h₂, Le h₀ h → Le h h₁ → Le h₁ h₂ → φ h a h₁ → ψ h₁ b h₂ → Ev prog w A h₂ (compareOp op a b) (fun _ c h₃ => χ h c h₃))
    (hm : behindInMarks op r = false := by with_unfolding_all rfl) : Ev prog w A h₀ (eval (.Compare l [op] [r] pos) env) χ := by
  intro s h tk Q E hl q
  exact wpAny_Compare1 (x s h tk _ E hl fun a h₁ t₁ k₁ f₁ => y s h₁ t₁ _ E (hl.trans k₁) fun b h₂ t₂ k₂ f₂ => z h a h₁ b h₂ hl k₁ k₂ f₁ f₂ s h₂ t₂ _ E (Le.refl _) fun c h₃ t₃ k₃ f₃ => q c h₃ t₃ (k₁.trans (k₂.trans k₃)) f₃) hm
theorem Ev.isCmp {op : CmpOp} {l r : Expr} {pos : Pos} {whole : Sem Value} {φ ψ : Heap → Value → Heap → Prop} {c : Bool} (x : Ev prog w A h₀ (eval l env) φ) (y : Ev prog w A h₀ (eval r env) ψ)
    (z : ∀ h a h₁ b h₂, Le h₀ h → Le h h₁ → Le h₁ h₂ → φ h a h₁ → ψ h₁ b h₂ → Ev prog w A h₂ (compareOp op a b) (BT c))
    (hm : behindInMarks op r = false := by with_unfolding_all rfl) : Ev prog w A h₀ (isTrue (.Compare l [op] [r] pos) env whole) (fun _ b _ => b = c) := by
  intro s h tk Q E hl q
  refine wpAny_isTrue_Compare1 (x s h tk _ E hl fun a h₁ t₁ k₁ f₁ => y s h₁ t₁ _ E (hl.trans k₁) fun b h₂ t₂ k₂ f₂ => z h a h₁ b h₂ hl k₁ k₂ f₁ f₂ s h₂ t₂ _ E (Le.refl _) fun c' h₃ t₃ k₃ f₃ => ?_) hm
  rw [show c' = .bool c from f₃]
  exact wpAny_truthy_bool (q _ h₃ t₃ (k₁.trans (k₂.trans k₃)) rfl)
theorem eqI {a b : Int} {t u : Tok} : Ev prog w A h₀ (compareOp .Eq (.int a t) (.int b u)) (BT (a == b)) := fun _ _ _ _ _ _ q => eq_int (q _ _ _ (Le.refl _) rfl)
theorem neI {a b : Int} {t u : Tok} : Ev prog w A h₀ (compareOp .NotEq (.int a t) (.int b u)) (BT (a != b)) := fun _ _ _ _ _ _ q => ne_int (q _ _ _ (Le.refl _) rfl)

/-! ## calls -/
theorem Ev.callW {pos : Pos} {f : Value} {t : Sem Value} {φ χ : Heap → Value → Heap → Prop} (hk : ∀ h, Le h₀ h → ∃ k, (k = Keeper.frame ∨ k = Keeper.machine ∨ k = Keeper.boundFrame) ∧ Looks (model prog w) h (keeperOf f) k)
    (x : Ev prog w A h₀ t φ) (z : ∀ h a h', Le h₀ h → Le h h' → φ h a h' → Ev prog w A h' (call f [a]) (fun _ b h'' => χ h b h'')) : Ev prog w A h₀ (callWith pos f [] [(false, t)] []) χ := by
  intro s h tk Q E hl q
  refine callWith_of (P := Le h₀) rfl hk (evalArgs_plain (spliced_cons (x s h tk _ E hl fun a h₁ t₁ k₁ f₁ => spliced_nil ⟨hl.trans k₁, ?_⟩)))
  exact z h a h₁ hl k₁ f₁ s h₁ t₁ Q E (Le.refl _) fun b h₂ t₂ k₂ f₂ => q b h₂ t₂ (k₁.trans k₂) f₂
theorem Ev.callW2 {pos : Pos} {f : Value} {t t' : Sem Value} {φ ψ χ : Heap → Value → Heap → Prop} (hk : ∀ h, Le h₀ h → ∃ k, (k = Keeper.frame ∨ k = Keeper.machine ∨ k = Keeper.boundFrame) ∧ Looks (model prog w) h (keeperOf f) k)
    (x : Ev prog w A h₀ t φ) (y : Ev prog w A h₀ t' ψ) (z : ∀ h a h₁ b h₂, Le h₀ h → Le h h₁ → Le h₁ h₂ → φ h a h₁ → ψ h₁ b h₂ → Ev prog w A h₂ (call f [a, b]) (fun _ c h₃ => χ h c h₃)) : Ev prog w A h₀ (callWith pos f [] [(false, t), (false, t')] []) χ := by
  intro s h tk Q E hl q
  refine callWith_of (P := Le h₀) rfl hk (evalArgs_plain (spliced_cons (x s h tk _ E hl fun a h₁ t₁ k₁ f₁ => spliced_cons (y s h₁ t₁ _ E (hl.trans k₁) fun b h₂ t₂ k₂ f₂ => spliced_nil ⟨hl.trans (k₁.trans k₂), ?_⟩))))
  exact z h a h₁ b h₂ hl k₁ k₂ f₁ f₂ s h₂ t₂ Q E (Le.refl _) fun c h₃ t₃ k₃ f₃ => q c h₃ t₃ (k₁.trans (k₂.trans k₃)) f₃
theorem keeps_type {T : String} (h : Heap) : ∃ k, (k = Keeper.frame ∨ k = Keeper.machine ∨ k = Keeper.boundFrame) ∧ Looks (model prog w) h (keeperOf (.type T)) k := ⟨.machine, .inr (.inl rfl), Looks.of_pure rfl⟩
theorem keeps_builtin {T : String} (h : Heap) : ∃ k, (k = Keeper.frame ∨ k = Keeper.machine ∨ k = Keeper.boundFrame) ∧ Looks (model prog w) h (keeperOf (.builtin T)) k := ⟨.machine, .inr (.inl rfl), Looks.of_pure rfl⟩
theorem keeps_fn {f : Addr} {o : Obj} {fd : FuncData} {h : Heap} (ho : h.get? f = some o) (hd : o.data = .func fd) : ∃ k, (k = Keeper.frame ∨ k = Keeper.machine ∨ k = Keeper.boundFrame) ∧ Looks (model prog w) h (keeperOf (.ref f)) k := by
  refine ⟨.frame, .inl rfl, ?_⟩
  intro A Q E s k q
  unfold keeperOf
  refine wpAny_bind (wpAny_load (k _ _ ho) ?_)
  rw [hd]
  exact wpAny_pure q
theorem Ev.call1 {func e : Expr} {pos : Pos} {f : Value} {φ χ : Heap → Value → Heap → Prop} (g : Ev prog w A h₀ (eval func env) (VE f))
    (hk : ∀ h, Le h₀ h → ∃ k, (k = Keeper.frame ∨ k = Keeper.machine ∨ k = Keeper.boundFrame) ∧ Looks (model prog w) h (keeperOf f) k)
    (x : Ev prog w A h₀ (eval e env) φ) (z : ∀ h a h', Le h₀ h → Le h h' → φ h a h' → Ev prog w A h' (call f [a]) (fun _ b h'' => χ h b h'')) (dn : Dn χ)
    (hs : starEach [e] env = [(false, eval e env)] := by rfl)
    (he : eval (.Call func [e] [] pos) env = (do callWith pos (← eval func env) [] (backTo pos (starEach [e] env)) (backToKw pos (keywordEach [] env))) := by rfl) : Ev prog w A h₀ (eval (.Call func [e] [] pos) env) χ := by
  intro s h tk Q E hl q
  refine Call_ (g s h tk _ E hl fun y h₁ t₁ k₁ f₁ => ?_) he
  subst f₁
  rw [hs]
  exact Ev.callW (h₀ := h₁) (fun h₂ k₂ => hk h₂ (hl.trans (k₁.trans k₂))) (x.lift (hl.trans k₁)) (χ := χ) (fun h₂ a h₃ k₂ k₃ f => z h₂ a h₃ (hl.trans (k₁.trans k₂)) k₃ f) s h₁ t₁ Q E (Le.refl _) fun b h₄ t₄ k₄ f₄ => q b h₄ t₄ (k₁.trans k₄) (dn k₁ f₄)
theorem Ev.call2 {func e e' : Expr} {pos : Pos} {f : Value} {φ ψ χ : Heap → Value → Heap → Prop} (g : Ev prog w A h₀ (eval func env) (VE f))
    (hk : ∀ h, Le h₀ h → ∃ k, (k = Keeper.frame ∨ k = Keeper.machine ∨ k = Keeper.boundFrame) ∧ Looks (model prog w) h (keeperOf f) k)
    (x : Ev prog w A h₀ (eval e env) φ) (y : Ev prog w A h₀ (eval e' env) ψ) (z : ∀ h a h₁ b h₂, Le h₀ h → Le h h₁ → Le h₁ h₂ → φ h a h₁ → ψ h₁ b h₂ → Ev prog w A h₂ (call f [a, b]) (fun _ c h₃ => χ h c h₃)) (dn : Dn χ)
    (hs : starEach [e, e'] env = [(false, eval e env), (false, eval e' env)] := by rfl)
    (he : eval (.Call func [e, e'] [] pos) env = (do callWith pos (← eval func env) [] (backTo pos (starEach [e, e'] env)) (backToKw pos (keywordEach [] env))) := by rfl) : Ev prog w A h₀ (eval (.Call func [e, e'] [] pos) env) χ := by
  intro s h tk Q E hl q
  refine Call_ (g s h tk _ E hl fun y₀ h₁ t₁ k₁ f₁ => ?_) he
  subst f₁
  rw [hs]
  exact Ev.callW2 (h₀ := h₁) (fun h₂ k₂ => hk h₂ (hl.trans (k₁.trans k₂))) (x.lift (hl.trans k₁)) (y.lift (hl.trans k₁)) (χ := χ) (fun h₂ a h₃ b h₄ k₂ k₃ k₄ f f' => z h₂ a h₃ b h₄ (hl.trans (k₁.trans k₂)) k₃ k₄ f f') s h₁ t₁ Q E (Le.refl _) fun b h₄ t₄ k₄ f₄ => q b h₄ t₄ (k₁.trans k₄) (dn k₁ f₄)

/-! ## built-in calls -/
theorem callLenB {l : List Nat} {t : Tok} (hlen : l.length ≤ 2 ^ 20) : Ev prog w A h₀ (call (.builtin "len") [.bytes (mkB l) t]) (DT (.int l.length)) :=
  fun _ _ _ _ _ _ q => len_bytes (by simp [mkB]; omega) (by simpa [mkB] using q _ _ _ (Le.refl _) (.int _ _))
theorem callLenL {a : Addr} {vs : List Value} {ds : List Dt} (hl : h₀.IsList a vs.toArray) (hd : vs.length = ds.length) (hlen : ds.length ≤ 2 ^ 20) : Ev prog w A h₀ (call (.builtin "len") [.ref a]) (DT (.int ds.length)) :=
  fun _ _ _ _ _ k q => call_len_list (hl.at fun o e => k _ o e) (by simp [hd]; omega) (by simpa [hd] using q _ _ _ (Le.refl _) (.int _ _))
theorem callBytes {a : Addr} {vs : List Value} {l : List Nat} (hh : A.handled = none) (hl : h₀.IsList a vs.toArray) (hd : DVs h₀ vs (l.map fun n => .int (Int.ofNat n))) (hr : ∀ n ∈ l, n < 256) (hlen : l.length ≤ 2 ^ 20) : Ev prog w A h₀ (call (.type "bytes") [.ref a]) (DT (.bts l)) := by
  intro s h tk Q E k q
  have hi : IntsAre vs (l.map Int.ofNat) := DVs.ints (h := h₀) (by simpa [List.map_map, Function.comp_def] using hd)
  refine call_bytes_ints (hl.at fun o e => k _ o e) hi (fun n hn => ?_) (size_le_of (by rw [hi.length]; simpa using hlen)) hh fun h' t tk' k' => ?_
  · obtain ⟨m, hm, rfl⟩ := List.mem_map.mp hn
    have := hr m hm
    simp; omega
  · have e : byteArr (l.map Int.ofNat) = mkB l := by simp [byteArr, mkB, List.map_map, Function.comp_def]
    rw [e]
    exact q _ h' _ k' (.bts l _ hr)
theorem callTuple {a : Addr} {vs : List Value} {ds : List Dt} (hl : h₀.IsList a vs.toArray) (hd : DVs h₀ vs ds) (hlen : ds.length ≤ 2 ^ 20) : Ev prog w A h₀ (call (.type "tuple") [.ref a]) (DT (.tup ds)) := by
  intro s h tk Q E k q
  refine call_tuple_list (hl.at fun o e => k _ o e) (fun h' k' => q _ _ _ (Le.trans k' (Le.push _ _)) (.tup ⟨_, Heap.get?_push_size _ rfl, rfl, _, rfl⟩ (hd.le (k.trans (Le.trans k' (Le.push _ _)))))) (size_le_of (by simpa [hd.length] using hlen))
theorem callRange1 {n : Nat} {t : Tok} : Ev prog w A h₀ (call (.type "range") [.int n t]) (fun _ y h' => ∃ l t u v, y = .ref l ∧ IsRange h' l 0 n 1 t u v) := by
  intro s h tk Q E k q
  exact call_range_1 (q _ _ _ (Le.push _ _) ⟨_, _, _, _, rfl, IsRange.new ..⟩)
end
end Mine

end
section
set_option maxRecDepth 100000
namespace Mine
open PySem PySem.W PySem.Calls PyProof.Rows

def Ret (r : Rst) (h : Heap) (φ : Heap → Value → Heap → Prop) (f : Flow) (s' : Shared) : Prop := ∃ v h' tk', f = .ret v ∧ s' = r.st h' tk' ∧ Le h h' ∧ φ h v h'
def NoE : Value → Shared → Prop := fun _ _ => False
section
variable {prog : Program} {w : World} {A : Around} {h₀ : Heap}
/-- a call of a def of the text's, by its body -/
theorem Ev.fn {f : Addr} {o : Obj} {fd : FuncData} {body : List Stmt} {vals : List Value} {binds : List (Str × Value)} {φ : Heap → Value → Heap → Prop} (hroom : A.depth < recursionLimit) (B : Bs w h₀)
    (ho : h₀.get? f = some o) (hdata : o.data = .func fd) (hcd : h₀.CodeRec fd.code fd.qualname)
    (hbody : fd.body = .stmts body) (hbind : bindArgs fd ⟨vals, []⟩ = Pure.pure binds) (hclo : fd.closure = [])
    (hkind : ∀ n, ∀ x ∈ binds, fd.scope.names.lookup x.1 = some .local ∨ (fd.scope.names.lookup x.1 = some .cell ∧ ((cellsFrom n fd.scope.names []).lookup x.1).isSome = true))
    (hb : ∀ (r : Rst) (h : Heap), Le h₀ h → ∀ h₁ tk, Fr h h.objs.size h₁ (bindL (callEnvC fd h.objs.size f).kindOf binds fun _ => none) →
      (∀ n c, (callEnvC fd h.objs.size f).cells.lookup n = some c → h₁.IsCell c (bindC (callEnvC fd h.objs.size f).kindOf binds (fun _ => none) n) ∧ h.objs.size < c) →
      wpAny (model prog w) (A.deeper (callEnvC fd h.objs.size f)) (execs body (callEnvC fd h.objs.size f)) (Ret r h φ) NoE (r.st h₁ tk))
    (hco : fd.scope.isCoroutine = false := by rfl) (hgen : fd.scope.isGenerator = false := by rfl) (hk : fd.scope.kind = .function := by rfl) : Ev prog w A h₀ (call (.ref f) vals) φ := by
  intro r h tk Q E hl q
  refine wpAny_call (codeAny_call_cells hroom (hl _ _ ho) hdata (B.le hl).lim (let ⟨c, oc, vs, t, e, h1, r⟩ := hcd; ⟨c, oc, vs, t, e, hl _ _ h1, r⟩) hbody hbind hclo (hkind _) (fun s₁ X => ?_) hco hgen hk)
  obtain ⟨h₁, tk₁, rfl, _⟩ := X.done
  refine wpAny_mono (hb r h hl h₁ tk₁ ⟨X.toInCall.ns, X.toInCall.keep, X.toInCall.fresh⟩ fun n c e => ⟨X.cell n c e, X.above n c (PySem.mem_of_lookup e)⟩) (fun fl s' hs => ?_) (fun _ _ z => z.elim)
  obtain ⟨v, h', tk', rfl, rfl, k, p⟩ := hs
  exact q v h' tk' k p
theorem retE {e : Expr} {pos : Pos} {env : Env} {r : Rst} {h h₁ : Heap} {tk : Nat} {φ : Heap → Value → Heap → Prop} (k : Le h h₁) (x : Ev prog w A h₁ (eval e env) φ) (dn : Dn φ) : wpAny (model prog w) A (execs [.Return (some e) pos] env) (Ret r h φ) NoE (r.st h₁ tk) :=
  wpAny_execs_cons (wpAny_Return_some (x r h₁ tk _ _ (Le.refl _) fun v h' tk' k' p => ⟨v, h', tk', rfl, rfl, k.trans k', dn k p⟩))
end

section
variable {prog : Program} {w : World} {A : Around} {h₀ : Heap} {env : Env} {func e : Expr} {pos : Pos}
theorem Ev.bytesL {l : List Nat} (hh : A.handled = none) (g : Ev prog w A h₀ (eval func env) (VE (.type "bytes"))) (x : Ev prog w A h₀ (eval e env) (LT (l.map fun n => .int (Int.ofNat n)))) (hr : ∀ n ∈ l, n < 256) (hlen : l.length ≤ 2 ^ 20)
    (hs : starEach [e] env = [(false, eval e env)] := by rfl)
    (he : eval (.Call func [e] [] pos) env = (do callWith pos (← eval func env) [] (backTo pos (starEach [e] env)) (backToKw pos (keywordEach [] env))) := by rfl) : Ev prog w A h₀ (eval (.Call func [e] [] pos) env) (DT (.bts l)) :=
  Ev.call1 g (fun _ _ => keeps_type _) x (fun h a h' _ _ ⟨b, vs, eb, _, hl, hd⟩ => by subst eb; exact callBytes hh hl.isList hd hr hlen) Dn.dt hs he
theorem Ev.tupleL {ds : List Dt} (g : Ev prog w A h₀ (eval func env) (VE (.type "tuple"))) (x : Ev prog w A h₀ (eval e env) (LT ds)) (hlen : ds.length ≤ 2 ^ 20)
    (hs : starEach [e] env = [(false, eval e env)] := by rfl)
    (he : eval (.Call func [e] [] pos) env = (do callWith pos (← eval func env) [] (backTo pos (starEach [e] env)) (backToKw pos (keywordEach [] env))) := by rfl) : Ev prog w A h₀ (eval (.Call func [e] [] pos) env) (DT (.tup ds)) :=
  Ev.call1 g (fun _ _ => keeps_type _) x (fun h a h' _ _ ⟨b, vs, eb, _, hl, hd⟩ => by subst eb; exact callTuple hl.isList hd hlen) Dn.dt hs he
theorem Ev.lenL {ds : List Dt} (g : Ev prog w A h₀ (eval func env) (VE (.builtin "len"))) (x : Ev prog w A h₀ (eval e env) (LT ds)) (hlen : ds.length ≤ 2 ^ 20)
    (hs : starEach [e] env = [(false, eval e env)] := by rfl)
    (he : eval (.Call func [e] [] pos) env = (do callWith pos (← eval func env) [] (backTo pos (starEach [e] env)) (backToKw pos (keywordEach [] env))) := by rfl) : Ev prog w A h₀ (eval (.Call func [e] [] pos) env) (DT (.int ds.length)) :=
  Ev.call1 g (fun _ _ => keeps_builtin _) x (fun h a h' _ _ ⟨b, vs, eb, _, hl, hd⟩ => by subst eb; exact callLenL hl.isList hd.length hlen) Dn.dt hs he
theorem Ev.lenB {l : List Nat} (g : Ev prog w A h₀ (eval func env) (VE (.builtin "len"))) (x : Ev prog w A h₀ (eval e env) (DT (.bts l))) (hlen : l.length ≤ 2 ^ 20)
    (hs : starEach [e] env = [(false, eval e env)] := by rfl)
    (he : eval (.Call func [e] [] pos) env = (do callWith pos (← eval func env) [] (backTo pos (starEach [e] env)) (backToKw pos (keywordEach [] env))) := by rfl) : Ev prog w A h₀ (eval (.Call func [e] [] pos) env) (DT (.int l.length)) :=
  Ev.call1 g (fun _ _ => keeps_builtin _) x (fun h a h' _ _ f => by cases f; exact callLenB hlen) Dn.dt hs he
theorem Ev.range1 {n : Nat} (g : Ev prog w A h₀ (eval func env) (VE (.type "range"))) (x : Ev prog w A h₀ (eval e env) (DT (.int n)))
    (hs : starEach [e] env = [(false, eval e env)] := by rfl)
    (he : eval (.Call func [e] [] pos) env = (do callWith pos (← eval func env) [] (backTo pos (starEach [e] env)) (backToKw pos (keywordEach [] env))) := by rfl) : Ev prog w A h₀ (eval (.Call func [e] [] pos) env) (fun _ y h' => ∃ l t u v, y = .ref l ∧ IsRange h' l 0 n 1 t u v) :=
  Ev.call1 g (fun _ _ => keeps_type _) x (fun h a h' _ _ f => by cases f; exact callRange1) (fun _ x => x) hs he
theorem Sr.range1 {n : Nat} (hh : A.handled = none) (hn : n < 2 ^ 40) (g : Ev prog w A h₀ (eval func env) (VE (.type "range"))) (x : Ev prog w A h₀ (eval e env) (DT (.int n)))
    (hs : starEach [e] env = [(false, eval e env)] := by rfl)
    (he : eval (.Call func [e] [] pos) env = (do callWith pos (← eval func env) [] (backTo pos (starEach [e] env)) (backToKw pos (keywordEach [] env))) := by rfl) : Sr prog w A h₀ (eval (.Call func [e] [] pos) env) ((List.range n).map fun i => .int (Int.ofNat i)) :=
  Sr.range hh hn (Ev.range1 g x hs he) fun _ _ _ f => f
end
/-- no test -/
theorem tests_nil {prog : Program} {w : World} {A : Around} {h₀ : Heap} {env : Env} : Ev prog w A h₀ (forIn ([] : List Expr) true fun c r => if r = true then do let ok ← isTrue c env (eval c env); pure (ForInStep.yield ok) else pure (ForInStep.yield r)) (fun _ b _ => b = true) :=
  fun _ h _ _ _ _ q => wpAny_tests_nil (q _ h _ (Le.refl _) rfl)
theorem tests_one {prog : Program} {w : World} {A : Around} {h₀ : Heap} {env : Env} {c : Expr} {b : Bool} (x : Ev prog w A h₀ (isTrue c env (eval c env)) (fun _ r _ => r = b)) : Ev prog w A h₀ (forIn [c] true fun c r => if r = true then do let ok ← isTrue c env (eval c env); pure (ForInStep.yield ok) else pure (ForInStep.yield r)) (fun _ r _ => r = b) :=
  fun r h tk _ E k q => wpAny_tests_one (x r h tk _ E k q)
theorem Ev.compN {prog : Program} {w : World} {A : Around} {h₀ : Heap} {env : Env} {elt iter : Expr} {x : Str} {px : Pos} {scope : Scope} {pos : Pos} {cl : List (Str × Addr)} {ds es : List Dt} (f : Dt → Dt) (he : ds.map f = es)
    (hclos : closureFor scope env = Pure.pure cl) (hcell : ∀ y ∈ scope.names, y.2 ≠ .cell) (hkind : scope.kind = .function)
    (hnames : ∀ y ∈ scope.names, y.2 = .local → scope.names.lookup y.1 = some .local) (hx : scope.names.lookup x = some .local) (hlen : ds.length ≤ 2 ^ 20)
    (hsrc : Sr prog w A h₀ (eval iter env) ds)
    (helt : ∀ d ∈ ds, ∀ C v h m, Le h₀ h → DV h v d → h.Ns C m → m x = some v → Ev prog w A h (eval elt (compEnvC scope cl C env)) (DT (f d)))
    (hs : ∀ x, foldedSetIterable iter env x = Pure.pure x := by intro _; rfl) :
    Ev prog w A h₀ (eval (.ListComp elt [⟨.Name x px, iter, [], 0⟩] scope pos) env) (LT es) :=
  Ev.compE (fun _ => true) f (by rw [List.filter_eq_self.mpr (fun _ _ => rfl)]; exact he) hclos hcell hkind hnames hx hlen hsrc (fun _ _ _ _ _ _ _ _ _ _ => tests_nil) (fun d hd _ => helt d hd) hs
end Mine

end
section
set_option maxRecDepth 100000
namespace Mine
open PySem PySem.W PySem.Calls PyProof.Rows

/-! ## a frame with objects of its own -/
structure Ws (g : Heap) (L : Addr) (h : Heap) (m : Str → Option Value) (Φ : List (Addr × Obj)) (T : List (List Value × List Dt)) : Prop where
  F : Fr g L h m
  N : News g L h Φ
  nd : (Φ.map (·.1)).Nodup
  T : ∀ p ∈ T, DVs h p.1 p.2
abbrev upd (m : Str → Option Value) (x : Str) (v : Value) : Str → Option Value := fun y => if y = x then some v else m y
section
variable {g : Heap} {L : Addr} {h h' : Heap} {m m' : Str → Option Value} {Φ : List (Addr × Obj)} {T : List (List Value × List Dt)}
theorem Ws.keep (W : Ws g L h m Φ T) : Le g h := W.F.keep
theorem Ws.le (W : Ws g L h m Φ T) (k : Le h h') : Ws g L h' m Φ T :=
  ⟨W.F.keeps k, fun p hp => ⟨k _ _ (W.N p hp).1, (W.N p hp).2⟩, W.nd, fun p hp => (W.T p hp).le k⟩
theorem Ws.get (W : Ws g L h m Φ T) (n : Nat) {a : Addr} {o : Obj} (e : Φ[n]? = some (a, o) := by rfl) : h.get? a = some o := (W.N _ (List.mem_of_getElem? e)).1
theorem Ws.dvs (W : Ws g L h m Φ T) (n : Nat) {vs : List Value} {ds : List Dt} (e : T[n]? = some (vs, ds) := by rfl) : DVs h vs ds := W.T _ (List.mem_of_getElem? e)
theorem Ws.store (W : Ws g L h m Φ T) (hn : h'.Ns L m') (hs : Heap.SameBut L h h') : Ws g L h' m' Φ T :=
  ⟨W.F.set hn hs, W.N.set hs, W.nd, fun p hp => (W.T p hp).tk (TK.ns W.F.ns hs.extBut)⟩
theorem Ws.add (W : Ws g L h m Φ T) (k : Le h h') {a : Addr} {o : Obj} (n : h.get? a = none) (e : h'.get? a = some o) : Ws g L h' m ((a, o) :: Φ) T := by
  have W' := W.le k
  refine ⟨W'.F, fun p hp => ?_, ?_, W'.T⟩
  · rcases List.mem_cons.mp hp with rfl | hp
    · refine ⟨e, fun q => ?_, ?_⟩
      · obtain ⟨o', _, _, e', _⟩ := W.F.ns
        simp only at q
        rw [q, e'] at n; cases n
      · exact none_of_le W.keep n
    · exact W'.N p hp
  · refine List.nodup_cons.mpr ⟨fun q => ?_, W.nd⟩
    obtain ⟨p, hp, rfl⟩ := List.mem_map.mp q
    rw [(W.N p hp).1] at n; cases n
theorem Ws.addT (W : Ws g L h m Φ T) {vs : List Value} {ds : List Dt} (x : DVs h vs ds) : Ws g L h m Φ ((vs, ds) :: T) :=
  ⟨W.F, W.N, W.nd, fun p hp => (List.mem_cons.mp hp).elim (fun e => e ▸ x) (W.T p)⟩
theorem Ws.sub {Φ' : List (Addr × Obj)} {T' : List (List Value × List Dt)} (W : Ws g L h m Φ T) (s : Φ'.Sublist Φ) (t : ∀ p ∈ T', p ∈ T) : Ws g L h m Φ' T' :=
  ⟨W.F, fun p hp => W.N p (s.subset hp), (s.map _).nodup W.nd, fun p hp => W.T p (t p hp)⟩
theorem Ws.addL (W : Ws g L h m Φ T) (k : Le h h') {y : Value} {ds : List Dt} (x : IsL h y h' ds) : ∃ a vs n, y = .ref a ∧ Ws g L h' m ((a, listOf vs.toArray n) :: Φ) ((vs, ds) :: T) := by
  obtain ⟨a, vs, e, n, ⟨c, hl⟩, hd⟩ := x
  exact ⟨a, vs, c, e, (W.add k n hl).addT hd⟩
theorem nodup_set {α β : Type} (f : α → β) : ∀ (l : List α) (n : Nat) (x y : α), l[n]? = some x → f x = f y → (l.set n y).map f = l.map f
  | [], _, _, _, h, _ => by simp at h
  | a :: l, 0, x, y, h, e => by simp at h; subst h; simp [e]
  | a :: l, n + 1, x, y, h, e => by simp at h; simp [nodup_set f l n x y h e]
theorem Ws.setAt (W : Ws g L h m Φ T) {n : Nat} {d : Addr} {o o' : Obj} (e : Φ[n]? = some (d, o)) (hs : Heap.SameBut d h h') (ho : h'.get? d = some o') (nt : ∀ xs k, o.cls = .type "tuple" → o.data = .seq xs k → False) : Ws g L h' m (Φ.set n (d, o')) T := by
  have D := W.N (d, o) (List.mem_of_getElem? e)
  have hm := nodup_set (fun p : Addr × Obj => p.1) Φ n (d, o) (d, o') e rfl
  have hn : n < Φ.length := (List.getElem?_eq_some_iff.mp e).1
  have t : TK h h' := TK.but hs.extBut fun o₁ xs k e₁ c q => by rw [D.1] at e₁; cases e₁; exact nt xs k c q
  refine ⟨⟨W.F.ns.sameBut hs (Ne.symm D.2.1), fun b x q => hs.extBut b x (fun z => by rw [z, D.2.2] at q; cases q) (W.keep b x q), W.F.above⟩, fun p hp => ?_, hm ▸ W.nd, fun p hp => (W.T p hp).tk t⟩
  obtain ⟨i, hi⟩ := List.mem_iff_getElem?.mp hp
  rw [List.getElem?_set] at hi
  split at hi
  · rename_i q
    subst q
    cases hi
    exact ⟨ho, D.2⟩
  · rename_i q
    have P := W.N p (List.mem_of_getElem? hi)
    refine ⟨hs.extBut _ _ (fun z => ?_) P.1, P.2⟩
    have nd := W.nd
    have e1 : (Φ.map (·.1))[n]? = some d := by rw [List.getElem?_map, e]; rfl
    have e2 : (Φ.map (·.1))[i]? = some d := by rw [List.getElem?_map, hi]; simp [z]
    exact q ((List.getElem?_inj (by simpa using hn) nd).mp (e1.trans e2.symm))
end

section
variable {prog : Program} {w : World} {A : Around} {g : Heap} {L : Addr} {h : Heap} {tk : Nat} {r : Rst} {m : Str → Option Value} {Φ : List (Addr × Obj)} {T : List (List Value × List Dt)} {env : Env} {E : Value → Shared → Prop}

theorem stL {x : Str} {v : Value} {Q : Unit → Shared → Prop} (W : Ws g L h m Φ T) (hl : env.kindOf x = some .local) (hk : env.scope.kind = .function) (he : env.locals = L)
    (q : ∀ h' tk', Ws g L h' (upd m x v) Φ T → Q () (r.st h' tk')) : wpAny (model prog w) A (storeName env x v) Q E (r.st h tk) :=
  wpAny_storeName_local hl (by rw [he]; exact W.F.ns) (fun h' hn hs => q h' _ (W.store (by rw [he] at hn; exact hn) (by rw [he] at hs; exact hs))) (by rw [hk]; rfl)
theorem stC {x : Str} {v : Value} {c : Addr} {o : Obj} {v₀ : Option Value} {Q : Unit → Shared → Prop} (W : Ws g L h m Φ T) (n : Nat) (e : Φ[n]? = some (c, o)) (hd : o.data = .cell v₀) (hl : env.kindOf x = some .cell) (hk : env.scope.kind = .function) (hc : env.cells.lookup x = some c)
    (q : ∀ h' tk' o', o'.data = .cell (some v) → Ws g L h' m (Φ.set n (c, o')) T → Q () (r.st h' tk')) : wpAny (model prog w) A (storeName env x v) Q E (r.st h tk) := by
  refine wpAny_storeName_cell hk hl hc ⟨o, W.get n e, hd⟩ fun h' hv hs => ?_
  obtain ⟨o', ho', hd'⟩ := hv
  exact q h' _ o' hd' (W.setAt e hs ho' fun xs k _ z => by rw [hd] at z; cases z)

/-! ## assignments -/
theorem asg1 {x : Str} {xp pos : Pos} {e : Expr} {rest : List Stmt} {φ : Heap → Value → Heap → Prop} {Q : Flow → Shared → Prop} (W : Ws g L h m Φ T) (hl : env.kindOf x = some .local) (hk : env.scope.kind = .function) (he : env.locals = L)
    (y : Ev prog w A h (eval e env) φ)
    (hW : ∀ v h₁, Le h h₁ → φ h v h₁ → ∃ Φ' T', Ws g L h₁ m Φ' T' ∧ ∀ h₂ tk₂, Ws g L h₂ (upd m x v) Φ' T' → wpAny (model prog w) A (execs rest env) Q E (r.st h₂ tk₂))
    (hs : swapsWith e (some (.Name x xp)) pos.line env = pure false := by rfl) : wpAny (model prog w) A (execs (.Assign [.Name x xp] e pos :: rest) env) Q E (r.st h tk) := by
  refine wpAny_execs_cons (wpAny_Assign_Name (y r h tk _ _ (Le.refl _) fun v h₁ t₁ k₁ f₁ => ?_) hs)
  obtain ⟨Φ', T', W', q⟩ := hW v h₁ k₁ f₁
  exact stL W' hl hk he fun h₂ t₂ W₂ => q h₂ t₂ W₂
theorem starE {e₁ e₂ : Expr} {env : Env} (h₁ : starEach [e₁, e₂] env = [(false, eval e₁ env), (false, eval e₂ env)]) {pos : Pos} {M : Model} {A : Around} {Q : List Value → Shared → Prop} {E : Value → Shared → Prop} {s : Shared}
    (h : wpAny M A (eval e₁ env) (fun a s₁ => wpAny M A (eval e₂ env) (fun b s₂ => Q [a, b] s₂) E s₁) E s) : wpAny M A (spliced (backTo pos (starEach [e₁, e₂] env))) Q E s := by
  rw [h₁]
  exact spliced_cons (wpAny_mono h (fun a s₁ q => spliced_cons (wpAny_mono q (fun b s₂ z => spliced_nil z) fun _ _ x => x)) fun _ _ x => x)
theorem Tuple2 {e₁ e₂ : Expr} {k : Nat} {pos : Pos} {φ ψ : Heap → Value → Heap → Prop} {Q : Value → Shared → Prop} (hh : A.handled = none) (x : Ev prog w A h (eval e₁ env) φ) (y : ∀ h₁ a, Le h h₁ → φ h a h₁ → Ev prog w A h₁ (eval e₂ env) ψ)
    (q : ∀ a h₁ b h₂ t h₃ tk₃, Le h h₁ → φ h a h₁ → Le h₁ h₂ → ψ h₁ b h₂ → Le h₂ h₃ → h₂.get? t = none → IsTup h₃ t #[a, b] → Q (.ref t) (r.st h₃ tk₃))
    (hs : starEach [e₁, e₂] env = [(false, eval e₁ env), (false, eval e₂ env)] := by rfl) : wpAny (model prog w) A (eval (.Tuple [e₁, e₂] k pos) env) Q E (r.st h tk) := by
  refine Tuple_ (starE hs (x r h tk _ _ (Le.refl _) fun a h₁ t₁ k₁ f₁ => y h₁ a k₁ f₁ r h₁ t₁ _ _ (Le.refl _) fun b h₂ t₂ k₂ f₂ => ?_))
  unfold newTuple
  exact wpAny_newObj_type (q a h₁ b h₂ _ _ _ k₁ f₁ k₂ f₂ (Le.push _ _) (fresh_size _) ⟨_, Heap.get?_push_size _ rfl, rfl, _, rfl⟩) (by show (2 : Nat) ≤ sizeLine; rw [sizeLine_eq]; omega)
theorem unpack2 {t : Addr} {a b : Value} {Q : List Value → Shared → Prop} (hh : A.handled = none) (ht : IsTup h t #[a, b]) (q : ∀ h', Le h h' → Q [a, b] (r.st h' tk)) : wpAny (model prog w) A (unpackItems (.ref t) 2 none) Q E (r.st h tk) :=
  unpackItems_tuple (items := #[a, b]) hh ht fun h' k => q h' fun b o e => k b o (fun z => by rw [z] at e; exact absurd (Heap.lt_size e) (Nat.lt_irrefl _)) e
/-- x, y = e₁, e₂ with two names of the frame's, stored the other way round -/
theorem asg2 {x y : Str} {xp yp tp vp pos : Pos} {k₁ k₂ : Nat} {e₁ e₂ : Expr} {rest : List Stmt} {φ ψ : Heap → Value → Heap → Prop} {Q : Flow → Shared → Prop} (hh : A.handled = none) (W : Ws g L h m Φ T) (hx : env.kindOf x = some .local) (hy : env.kindOf y = some .local) (hk : env.scope.kind = .function) (he : env.locals = L)
    (u : Ev prog w A h (eval e₁ env) φ) (v : ∀ h₁ a, Le h h₁ → φ h a h₁ → Ev prog w A h₁ (eval e₂ env) ψ)
    (hW : ∀ a h₁ b h₂, Le h h₁ → φ h a h₁ → Le h₁ h₂ → ψ h₁ b h₂ → ∃ Φ' T', Ws g L h₂ m Φ' T' ∧ ∀ h₃ tk₃, Ws g L h₃ (upd (upd m y b) x a) Φ' T' → wpAny (model prog w) A (execs rest env) Q E (r.st h₃ tk₃))
    (hs : starEach [e₁, e₂] env = [(false, eval e₁ env), (false, eval e₂ env)] := by rfl)
    (hw : swappedStores [.Tuple [.Name x xp, .Name y yp] k₁ tp] (.Tuple [e₁, e₂] k₂ vp) env = pure (some [x, y]) := by rfl) :
    wpAny (model prog w) A (execs (.Assign [.Tuple [.Name x xp, .Name y yp] k₁ tp] (.Tuple [e₁, e₂] k₂ vp) pos :: rest) env) Q E (r.st h tk) := by
  refine wpAny_execs_cons (Assign_Tuple_swapped (names := [x, y]) (Tuple2 hh u v (fun a h₁ b h₂ t h₃ tk₃ l₁ f₁ l₂ f₂ l₃ _ ht => ?_) hs) (by rfl) hw)
  obtain ⟨Φ', T', W', q⟩ := hW a h₁ b h₂ l₁ f₁ l₂ f₂
  refine unpack2 hh ht fun h₄ l₄ => ?_
  have W₄ := W'.le (l₃.trans l₄)
  exact assignInOrder_cons (wpAny_bindName (stL W₄ hy hk he fun h₅ t₅ W₅ => assignInOrder_cons (wpAny_bindName (stL W₅ hx hk he fun h₆ t₆ W₆ => assignInOrder_nil (q h₆ t₆ W₆)))))
end
end Mine

end
section
set_option maxRecDepth 100000
namespace Mine
open PySem PySem.W PySem.Calls PyProof.Rows

section
variable {prog : Program} {w : World} {A : Around} {g : Heap} {L : Addr} {h : Heap} {tk : Nat} {r : Rst} {m : Str → Option Value} {Φ : List (Addr × Obj)} {T : List (List Value × List Dt)} {env : Env} {E : Value → Shared → Prop}

abbrev LInv := Nat → Nat → List Value → (Str → Option Value) → List (Addr × Obj) → List (List Value × List Dt) → Prop
/-- the end of a turn -/
def TEnd (g : Heap) (L : Addr) (r : Rst) (I : Addr) (oI : Obj) (J : LInv) (n i : Nat) (Q : Flow → Shared → Prop) (f : Flow) (s : Shared) : Prop :=
  match f with
  | .brk => Q .next s
  | .ret v => Q (.ret v) s
  | _ => ∃ n' vs' m' Φ' T' H' tk', s = r.st H' tk' ∧ n' < n ∧ J n' (i + 1) vs' m' Φ' T' ∧ Ws g L H' m' ((I, oI) :: Φ') T'

theorem Ws.rest {I : Addr} {oI : Obj} {h' : Heap} (W : Ws g L h m ((I, oI) :: Φ) T) (k : Heap.ExtBut I h h') (nt : ∀ xs k, oI.cls = .type "tuple" → oI.data = .seq xs k → False) : Ws g L h' m Φ T := by
  have D := W.N (I, oI) (.head _)
  have t : TK h h' := TK.but k fun o xs n e c q => by rw [D.1] at e; cases e; exact nt xs n c q
  have nd := List.nodup_cons.mp W.nd
  refine ⟨⟨?_, fun b o e => k b o (fun q => by rw [q, D.2.2] at e; cases e) (W.keep b o e), W.F.above⟩, fun p hp => ?_, nd.2, fun p hp => (W.T p hp).tk t⟩
  · exact W.F.ns.at' fun o e => k _ o (Ne.symm D.2.1) e
  · have P := W.N p (List.mem_cons_of_mem _ hp)
    exact ⟨k _ _ (fun q => nd.1 (List.mem_map.mpr ⟨p, hp, q⟩)) P.1, P.2⟩

theorem forList {x : Str} {xp pos : Pos} {iter : Expr} {body : List Stmt} {l : Addr} {n₀ : Nat} {vs₀ : List Value} {Q : Flow → Shared → Prop} (J : LInv) (hh : A.handled = none) (W : Ws g L h m Φ T)
    (hi : Ev prog w A h (eval iter env) (VE (.ref l))) (hJ : J n₀ 0 vs₀ m Φ T) (hl : ∀ n i vs m Φ T H, J n i vs m Φ T → Ws g L H m Φ T → H.IsList l vs.toArray)
    (turn : ∀ n i vs v m Φ T H tk I oI, J n i vs m Φ T → vs[i]? = some v → Ws g L H m ((I, oI) :: Φ) T →
      wpAny (model prog w) A (assign (.Name x xp) env v) (fun _ s₂ => wpAny (model prog w) A (execs body env) (TEnd g L r I oI J n i Q) NoE s₂) NoE (r.st H tk))
    (done : ∀ n i vs m Φ T H tk, J n i vs m Φ T → vs[i]? = none → Ws g L H m Φ T → Q .next (r.st H tk))
    (hs : ∀ x, foldedSetIterable iter env x = pure x := by intro _; rfl) : wpAny (model prog w) A (exec (.For (.Name x xp) iter body [] pos) env) Q NoE (r.st h tk) := by
  refine wpAny_For (hi r h tk _ _ (Le.refl _) fun y h₁ t₁ k₁ f₁ => ?_) hs
  subst f₁
  have W₁ := W.le k₁
  have hl₁ := hl _ _ _ _ _ _ _ hJ W₁
  refine wpAny_pyIter_list hl₁ ?_
  refine codeAny_forLoop (fun n s => ∃ i vs m Φ T H tk I oI, s = r.st H tk ∧ J n i vs m Φ T ∧ Ws g L H m ((I, oI) :: Φ) T ∧ I = h₁.objs.size ∧ oI.cls = .type "list_iterator" ∧ oI.data = .fields #[.ref l, .int i 0]) ?_ n₀ ⟨0, vs₀, m, Φ, T, _, t₁, _, _, rfl, hJ, W₁.add (Le.push _ _) (fresh_size _) (Heap.get?_push_size _ rfl), rfl, rfl, rfl⟩
  · clear hJ W₁ hl₁
    rintro n s ⟨i, vs, m, Φ, T, H, tk, I, oI, rfl, hJ', W', rfl, hc, hd⟩
    have D := W'.N (_, oI) (.head _)
    have ntI : ∀ xs k, oI.cls = .type "tuple" → oI.data = .seq xs k → False := fun xs k c q => by rw [hd] at q; cases q
    have hit : H.IsListIter h₁.objs.size l i := ⟨oI, D.1, hc, hd⟩
    have hL : H.IsList l vs.toArray := hl _ _ _ _ _ _ _ hJ' (W'.sub (List.sublist_cons_self _ _) fun _ p => p)
    cases hv : vs[i]? with
    | none =>
      refine wpAny_pyNext_list_end hh hit hL (by simpa using hv) fun h₂ k₂ => wpAny_execs_nil ?_
      exact done _ _ _ _ _ _ _ _ hJ' hv (W'.rest k₂ ntI)
    | some v =>
      refine wpAny_pyNext_list_item hit hL (x := v) (by simpa using hv) fun h₂ hit₂ hs₂ => ?_
      obtain ⟨o₂, e₂, c₂, d₂⟩ := hit₂
      have W₂ : Ws g L h₂ m ((h₁.objs.size, o₂) :: Φ) T := W'.setAt (n := 0) rfl hs₂ e₂ ntI
      refine wpAny_mono (turn n i vs v m Φ T h₂ tk _ o₂ hJ' hv W₂) (fun _ s₂ q => wpAny_mono q (fun f s₃ z => ?_) fun _ _ z => z.elim) fun _ _ z => z.elim
      have fin : (∃ n' vs' m' Φ' T' H' tk', s₃ = r.st H' tk' ∧ n' < n ∧ J n' (i + 1) vs' m' Φ' T' ∧ Ws g L H' m' ((h₁.objs.size, o₂) :: Φ') T') →
          ∃ m, m < n ∧ (∃ i vs m' Φ T H tk I oI, s₃ = r.st H tk ∧ J m i vs m' Φ T ∧ Ws g L H m' ((I, oI) :: Φ) T ∧ I = h₁.objs.size ∧ oI.cls = .type "list_iterator" ∧ oI.data = .fields #[.ref l, .int i 0]) := by
        rintro ⟨n', vs', m', Φ', T', H', tk', e, hn, hJ'', W''⟩
        exact ⟨n', hn, i + 1, vs', m', Φ', T', H', tk', _, o₂, e, hJ'', W'', rfl, c₂, d₂⟩
      cases f with
      | next => exact fin z
      | cont => exact fin z
      | brk => exact z
      | ret v => exact z

abbrev RInv := Nat → (Str → Option Value) → List (Addr × Obj) → List (List Value × List Dt) → Prop
def REnd (g : Heap) (L : Addr) (r : Rst) (I : Addr) (oI : Obj) (J : RInv) (i : Nat) (Q : Flow → Shared → Prop) (f : Flow) (s : Shared) : Prop :=
  match f with
  | .brk => Q .next s
  | .ret v => Q (.ret v) s
  | _ => ∃ m' Φ' T' H' tk', s = r.st H' tk' ∧ J (i + 1) m' Φ' T' ∧ Ws g L H' m' ((I, oI) :: Φ') T'
theorem forRange {x : Str} {xp pos : Pos} {iter : Expr} {body : List Stmt} {a b c : Int} {n₀ : Nat} {φ : Heap → Value → Heap → Prop} {Q : Flow → Shared → Prop} (J : RInv) (hh : A.handled = none) (W : Ws g L h m Φ T)
    (hi : Ev prog w A h (eval iter env) φ) (hφ : ∀ h y h', φ h y h' → ∃ l t u v, y = .ref l ∧ IsRange h' l a b c t u v) (hsm : Builtin.Range.small a b c = true) (hsz : Builtin.Range.rangeSize a b c = (n₀ : Int)) (hJ : J 0 m Φ T)
    (turn : ∀ i t m Φ T H tk I oI, J i m Φ T → i < n₀ → Ws g L H m ((I, oI) :: Φ) T →
      wpAny (model prog w) A (assign (.Name x xp) env (.int (a + (i : Int) * c) t)) (fun _ s₂ => wpAny (model prog w) A (execs body env) (REnd g L r I oI J i Q) NoE s₂) NoE (r.st H tk))
    (done : ∀ m Φ T H tk, J n₀ m Φ T → Ws g L H m Φ T → Q .next (r.st H tk))
    (hs : ∀ x, foldedSetIterable iter env x = pure x := by intro _; rfl) : wpAny (model prog w) A (exec (.For (.Name x xp) iter body [] pos) env) Q NoE (r.st h tk) := by
  refine wpAny_For (hi r h tk _ _ (Le.refl _) fun y h₁ t₁ k₁ f₁ => ?_) hs
  obtain ⟨l, k1, k2, k3, rfl, hr⟩ := hφ _ _ _ f₁
  have W₁ := W.le k₁
  refine wpAny_pyIter_range hr hsm ?_
  rw [hsz]
  have W₀ := W₁.add (Le.push _ _) (fresh_size _) (Heap.get?_push_size h₁ (o := ({ cls := .type "range_iterator", data := .fields #[rawInt a, rawInt n₀, rawInt c] } : Obj)) rfl)
  refine codeAny_forLoop (fun n s => ∃ i m Φ T H tk, s = r.st H tk ∧ i ≤ n₀ ∧ n = n₀ - i ∧ J i m Φ T ∧ Ws g L H m ((h₁.objs.size, { cls := .type "range_iterator", data := .fields #[rawInt (a + (i : Int) * c), rawInt ((n₀ : Int) - (i : Int)), rawInt c] }) :: Φ) T) ?_ n₀ ⟨0, m, Φ, T, _, t₁, rfl, Nat.zero_le _, rfl, hJ, by simpa using W₀⟩
  · clear hJ W₁ W₀
    rintro n s ⟨i, m, Φ, T, H, tk, rfl, hi, rfl, hJ', W'⟩
    have D := W'.N (_, _) (.head _)
    have hit : IsRangeIter H h₁.objs.size (a + (i : Int) * c) ((n₀ : Int) - (i : Int)) c := D.1
    by_cases hlt : i < n₀
    · refine wpAny_pyNext_range_item hit (by omega) fun h₂ hit₂ hs₂ => ?_
      have e1 : a + ((i + 1 : Nat) : Int) * c = a + (i : Int) * c + c := by push_cast; rw [Int.add_mul, Int.one_mul, Int.add_assoc]
      have e2 : (n₀ : Int) - ((i + 1 : Nat) : Int) = (n₀ : Int) - (i : Int) - 1 := by push_cast; omega
      have W₂ : Ws g L h₂ m ((h₁.objs.size, { cls := .type "range_iterator", data := .fields #[rawInt (a + ((i + 1 : Nat) : Int) * c), rawInt ((n₀ : Int) - ((i + 1 : Nat) : Int)), rawInt c] }) :: Φ) T := by
        rw [e1, e2]
        exact W'.setAt (n := 0) rfl hs₂ hit₂ (fun xs k _ q => by cases q)
      refine wpAny_mono (turn i _ m Φ T h₂ _ _ _ hJ' hlt W₂) (fun _ s₂ q => wpAny_mono q (fun f s₃ z => ?_) fun _ _ z => z.elim) fun _ _ z => z.elim
      have fin : (∃ m' Φ' T' H' tk', s₃ = r.st H' tk' ∧ J (i + 1) m' Φ' T' ∧ Ws g L H' m' ((h₁.objs.size, { cls := .type "range_iterator", data := .fields #[rawInt (a + ((i + 1 : Nat) : Int) * c), rawInt ((n₀ : Int) - ((i + 1 : Nat) : Int)), rawInt c] }) :: Φ') T') →
          ∃ m, m < n₀ - i ∧ (∃ i m' Φ T H tk, s₃ = r.st H tk ∧ i ≤ n₀ ∧ m = n₀ - i ∧ J i m' Φ T ∧ Ws g L H m' ((h₁.objs.size, { cls := .type "range_iterator", data := .fields #[rawInt (a + (i : Int) * c), rawInt ((n₀ : Int) - (i : Int)), rawInt c] }) :: Φ) T) := by
        rintro ⟨m', Φ', T', H', tk', e, hJ'', W''⟩
        exact ⟨_, by omega, i + 1, m', Φ', T', H', tk', e, hlt, rfl, hJ'', W''⟩
      cases f with
      | next => exact fin z
      | cont => exact fin z
      | brk => exact z
      | ret v => exact z
    · have : i = n₀ := by omega
      subst this
      refine wpAny_pyNext_range_end hh hit (by omega) fun h₂ k₂ => wpAny_execs_nil ?_
      exact done _ _ _ _ _ hJ' (W'.rest k₂ (fun xs k _ q => by cases q))

abbrev WInv := Nat → (Str → Option Value) → List (Addr × Obj) → List (List Value × List Dt) → Prop
def WEnd (g : Heap) (L : Addr) (r : Rst) (J : WInv) (n : Nat) (Q : Flow → Shared → Prop) (f : Flow) (s : Shared) : Prop :=
  match f with
  | .brk => Q .next s
  | .ret v => Q (.ret v) s
  | _ => ∃ n' m' Φ' T' H' tk', s = r.st H' tk' ∧ n' < n ∧ J n' m' Φ' T' ∧ Ws g L H' m' Φ' T'
theorem whileS {test : Expr} {body : List Stmt} {pos : Pos} {n₀ : Nat} {Q : Flow → Shared → Prop} (J : WInv) (W : Ws g L h m Φ T) (hJ : J n₀ m Φ T)
    (turn : ∀ n m Φ T H, J n m Φ T → Ws g L H m Φ T → ∃ b, Ev prog w A H (isTrue test env (eval test env)) (fun _ c _ => c = b) ∧
      (b = false → ∀ H' tk', Le H H' → Ws g L H' m Φ T → Q .next (r.st H' tk')) ∧
      (b = true → ∀ H' tk', Le H H' → Ws g L H' m Φ T → wpAny (model prog w) A (execs body env) (WEnd g L r J n Q) NoE (r.st H' tk'))) :
    wpAny (model prog w) A (exec (.While test body [] pos) env) Q NoE (r.st h tk) := by
  refine wpAny_While (codeAny_whileLoop (fun n s => ∃ m Φ T H tk, s = r.st H tk ∧ J n m Φ T ∧ Ws g L H m Φ T) ?_ n₀ ⟨m, Φ, T, h, tk, rfl, hJ, W⟩)
  rintro n s ⟨m, Φ, T, H, tk, rfl, hJ', W'⟩
  obtain ⟨b, x, hf, ht⟩ := turn n m Φ T H hJ' W'
  refine x r H tk _ _ (Le.refl _) fun c H' tk' k e => ?_
  subst e
  cases c with
  | false =>
    simp only [Bool.false_eq_true, if_false]
    exact wpAny_execs_nil (hf rfl H' tk' k (W'.le k))
  | true =>
    simp only [if_true]
    refine wpAny_mono (ht rfl H' tk' k (W'.le k)) (fun f s₃ z => ?_) fun _ _ z => z.elim
    have fin : (∃ n' m' Φ' T' H' tk', s₃ = r.st H' tk' ∧ n' < n ∧ J n' m' Φ' T' ∧ Ws g L H' m' Φ' T') → ∃ m, m < n ∧ (fun n s => ∃ m Φ T H tk, s = r.st H tk ∧ J n m Φ T ∧ Ws g L H m Φ T) m s₃ := by
      rintro ⟨n', m', Φ', T', H', tk', e, hn, h1, h2⟩
      exact ⟨n', hn, m', Φ', T', H', tk', e, h1, h2⟩
    cases f with
    | next => exact fin z
    | cont => exact fin z
    | brk => exact z
    | ret v => exact z
end
end Mine

end
section
set_option maxRecDepth 100000
namespace Mine
open PySem PySem.W PySem.Calls PyProof.Rows

theorem DVs.drop {h : Heap} {vs : List Value} {ds : List Dt} (x : DVs h vs ds) (k : Nat) : DVs h (vs.drop k) (ds.drop k) := by
  induction k generalizing vs ds with
  | zero => exact x
  | succ k ih => cases vs with
    | nil => cases x; exact .nil
    | cons v vs => cases x with | cons a b => exact ih b
theorem DVs.take {h : Heap} {vs : List Value} {ds : List Dt} (x : DVs h vs ds) (k : Nat) : DVs h (vs.take k) (ds.take k) := by
  induction k generalizing vs ds with
  | zero => exact .nil
  | succ k ih => cases vs with
    | nil => cases x; exact .nil
    | cons v vs => cases x with | cons a b => exact .cons a (ih b)
theorem DVs.append {h : Heap} {vs us : List Value} {ds es : List Dt} (x : DVs h vs ds) (y : DVs h us es) : DVs h (vs ++ us) (ds ++ es) := by
  induction vs generalizing ds with
  | nil => cases x; exact y
  | cons v vs ih => cases x with | cons a b => exact .cons a (ih b)
theorem DVs.reverse {h : Heap} {vs : List Value} {ds : List Dt} (x : DVs h vs ds) : DVs h vs.reverse ds.reverse := by
  induction vs generalizing ds with
  | nil => cases x; exact .nil
  | cons v vs ih => cases x with | cons a b => rw [List.reverse_cons, List.reverse_cons]; exact (ih b).append (.cons a .nil)
theorem DVs.erase {h : Heap} {vs : List Value} {ds : List Dt} (x : DVs h vs ds) (k : Nat) : DVs h (vs.eraseIdx k) (ds.eraseIdx k) := by
  induction k generalizing vs ds with
  | zero => cases vs with
    | nil => cases x; exact .nil
    | cons v vs => cases x with | cons a b => exact b
  | succ k ih => cases vs with
    | nil => cases x; exact .nil
    | cons v vs => cases x with | cons a b => exact .cons a (ih b)
theorem DVs.flat {h : Heap} {vs : List Value} {ds : List Dt} (x : DVs h vs ds) (k : Nat) : DVs h (List.replicate k vs).flatten (List.replicate k ds).flatten := by
  induction k with
  | zero => exact .nil
  | succ k ih => rw [List.replicate_succ, List.replicate_succ, List.flatten_cons, List.flatten_cons]; exact x.append ih

def LV (ds : List Dt) : Heap → Value → Heap → Prop := fun _ y h' => ∃ a vs, y = .ref a ∧ h'.IsList a vs.toArray ∧ DVs h' vs ds
theorem Dn.lv {ds : List Dt} : Dn (LV ds) := fun _ x => x
section
variable {prog : Program} {w : World} {A : Around} {h₀ : Heap} {env : Env}
theorem Ev.lv {t : Sem Value} {ds : List Dt} (x : Ev prog w A h₀ t (LT ds)) : Ev prog w A h₀ t (LV ds) := x.mono fun _ _ _ _ _ ⟨a, vs, e, _, l, d⟩ => ⟨a, vs, e, l.isList, d⟩
theorem Ev.lname {x : Str} {pos : Pos} {a : Addr} {vs : List Value} {ds : List Dt} (n : NameIs env h₀ x (.ref a)) (hl : h₀.IsList a vs.toArray) (hv : DVs h₀ vs ds) (hd : (x == ("__debug__" : Str)) = false := by decide) : Ev prog w A h₀ (eval (.Name x pos) env) (LV ds) :=
  (Ev.name n hd).mono fun _ _ _ k l e => ⟨a, vs, e, hl.at fun o q => l _ o (k _ o q), hv.le (k.trans l)⟩
theorem Sr.lv {t : Sem Value} {ds : List Dt} (hh : A.handled = none) (x : Ev prog w A h₀ t (LV ds)) (hdata : ∀ h vs, DVs h vs ds → DVs h₀ vs ds) : Sr prog w A h₀ t ds := by
  intro r h tk Q E hle q
  refine x r h tk _ E hle fun y h' tk' k ⟨l, vs, e, hl', hd'⟩ => ?_
  subst e
  refine wpAny_pyIter_list hl' (q _ _ _ (k.trans (Le.push _ _)) ?_)
  have hd := (hdata _ _ hd').le hle
  have hlt : l < h'.objs.size := by obtain ⟨o, ho, _⟩ := hl'; exact Heap.lt_size ho
  refine IterOf.mk h'.objs.size [h'.objs.size, l] [h'.objs.size] (fun i v => vs.toArray[i]? = some v) (fun i h => h.IsListIter h'.objs.size l i ∧ h.IsList l vs.toArray) ?_ ⟨⟨_, Heap.get?_push_size _ rfl, rfl, rfl⟩, hl'.push _⟩ ?_ ?_ ?_ ?_
  · have W := Walks.list (prog := prog) (w := w) (A := A) hh h'.objs.size l (Nat.ne_of_lt hlt) vs.toArray
    rw [show vs.toArray.size = ds.length by simp [hd.length]] at W
    exact W
  · intro b hb
    rw [Heap.size_push]
    rcases List.mem_cons.mp hb with rfl | hb
    · exact Nat.lt_succ_self _
    · rw [List.mem_singleton.mp hb]; exact Nat.lt_succ_of_lt hlt
  · intro b hb
    rw [List.mem_singleton.mp hb]
    exact none_of_le k (fresh_size _)
  · rintro i h2 ⟨⟨o2, e2, c2, _⟩, _⟩ b hb o xs n e c _
    rw [List.mem_singleton.mp hb, e2] at e
    cases e
    rw [c2] at c
    exact absurd c (by decide)
  · intro i v _ hv
    obtain ⟨d, h1, h2⟩ := hd.get (i := i) (v := v) (by simpa using hv)
    exact ⟨d, h1, h2⟩
/-- ints and bytes are data at every heap -/
def flat : Dt → Bool
  | .int _ => true
  | .bts _ => true
  | .str _ => true
  | _ => false
theorem flat_any {h h' : Heap} : ∀ {vs : List Value} {ds : List Dt}, (∀ d ∈ ds, flat d = true) → DVs h vs ds → DVs h' vs ds
  | _, _, _, .nil => .nil
  | _, d :: _, hf, .cons a b => .cons (by
      have := hf d (.head _)
      cases a with
      | int i t => exact .int i t
      | str s t => exact .str s t
      | bts l t hl => exact .bts l t hl
      | tup ha hd => simp [flat] at this) (flat_any (fun e he => hf e (.tail _ he)) b)

theorem Ev.lenV {func e : Expr} {pos : Pos} {ds : List Dt} (g : Ev prog w A h₀ (eval func env) (VE (.builtin "len"))) (x : Ev prog w A h₀ (eval e env) (LV ds)) (hlen : ds.length ≤ 2 ^ 20)
    (hs : starEach [e] env = [(false, eval e env)] := by rfl)
    (he : eval (.Call func [e] [] pos) env = (do callWith pos (← eval func env) [] (backTo pos (starEach [e] env)) (backToKw pos (keywordEach [] env))) := by rfl) : Ev prog w A h₀ (eval (.Call func [e] [] pos) env) (DT (.int ds.length)) :=
  Ev.call1 g (fun _ _ => keeps_builtin _) x (fun h a h' _ _ ⟨b, vs, eb, hl, hd⟩ => by subst eb; exact callLenL hl hd.length hlen) Dn.dt hs he
theorem Ev.bytesV {func e : Expr} {pos : Pos} {l : List Nat} (hh : A.handled = none) (g : Ev prog w A h₀ (eval func env) (VE (.type "bytes"))) (x : Ev prog w A h₀ (eval e env) (LV (l.map fun n => .int (Int.ofNat n)))) (hr : ∀ n ∈ l, n < 256) (hlen : l.length ≤ 2 ^ 20)
    (hs : starEach [e] env = [(false, eval e env)] := by rfl)
    (he : eval (.Call func [e] [] pos) env = (do callWith pos (← eval func env) [] (backTo pos (starEach [e] env)) (backToKw pos (keywordEach [] env))) := by rfl) : Ev prog w A h₀ (eval (.Call func [e] [] pos) env) (DT (.bts l)) :=
  Ev.call1 g (fun _ _ => keeps_type _) x (fun h a h' _ _ ⟨b, vs, eb, hl, hd⟩ => by subst eb; exact callBytes hh hl hd hr hlen) Dn.dt hs he
theorem callListV {a : Addr} {vs : List Value} {ds : List Dt} (hl : h₀.IsList a vs.toArray) (hd : DVs h₀ vs ds) (hlen : ds.length ≤ 2 ^ 20) : Ev prog w A h₀ (call (.type "list") [.ref a]) (LT ds) := by
  intro r h tk Q E k q
  obtain ⟨o, ho, hc, n, hdt⟩ := hl
  exact call_list_seq a (.inl rfl) (k _ _ ho) hc hdt (fun h' c' k' hD => q _ _ _ k' ⟨_, vs, rfl, fresh_size _, ⟨c', hD⟩, hd.le (k.trans k')⟩) (size_le_of (by simpa [hd.length] using hlen))
theorem Ev.listV {func e : Expr} {pos : Pos} {ds : List Dt} (g : Ev prog w A h₀ (eval func env) (VE (.type "list"))) (x : Ev prog w A h₀ (eval e env) (LV ds)) (hlen : ds.length ≤ 2 ^ 20)
    (hs : starEach [e] env = [(false, eval e env)] := by rfl)
    (he : eval (.Call func [e] [] pos) env = (do callWith pos (← eval func env) [] (backTo pos (starEach [e] env)) (backToKw pos (keywordEach [] env))) := by rfl) : Ev prog w A h₀ (eval (.Call func [e] [] pos) env) (LT ds) :=
  Ev.call1 g (fun _ _ => keeps_type _) x (fun h a h' _ _ ⟨b, vs, eb, hl, hd⟩ => by
    subst eb
    exact (callListV hl hd hlen).mono fun h₁ y h₂ k _ z => Dn.lt (Le.trans ‹_› k) z) Dn.lt hs he
theorem rsize (n : Nat) : Builtin.Range.rangeSize 0 n 1 = (n : Int) := by
  have := rangeSize_nat 0 n
  simpa using this
theorem callListR {a : Addr} {n : Nat} {t u v : Tok} (hh : A.handled = none) (hr : IsRange h₀ a 0 n 1 t u v) (hlen : n ≤ 2 ^ 20) : Ev prog w A h₀ (call (.type "list") [.ref a]) (LT ((List.range n).map fun i => .int (Int.ofNat i))) := by
  intro r h tk Q E k q
  refine call_list_range hh (k _ _ hr) (small_one (by omega) (by omega) (by omega) (by omega)) (rsize n) (by omega) fun h' tk' acc c' k' hD hi => q _ _ _ k' ⟨_, acc.toList, rfl, fresh_size _, ⟨c', by simpa using hD⟩, ?_⟩
  have key : ∀ (l : List Value) (s : Nat), (∀ j v, l[j]? = some v → ∃ t, v = Value.int (0 + ((s + j : Nat) : Int) * 1) t) → DVs h' l ((List.range' s l.length).map fun i => Dt.int (Int.ofNat i)) := by
    intro l
    induction l with
    | nil => intro s _; exact .nil
    | cons x l ih =>
      intro s hx
      obtain ⟨t, rfl⟩ := hx 0 x rfl
      rw [List.length_cons, List.range'_succ, List.map_cons]
      refine .cons (by simpa using DV.int (Int.ofNat s) t) (ih (s + 1) fun j v hj => ?_)
      obtain ⟨t', e⟩ := hx (j + 1) v (by simpa using hj)
      exact ⟨t', by rw [e]; congr 2; push_cast; omega⟩
  have h1 := key acc.toList 0 fun j v hj => by
    obtain ⟨t, e⟩ := hi.2 j v (by simpa using hj)
    exact ⟨t, by simpa using e⟩
  have h2 : acc.toList.length = n := by simpa using hi.1
  rwa [h2, ← List.range_eq_range'] at h1
theorem Ev.listR {func e : Expr} {pos : Pos} {n : Nat} (hh : A.handled = none) (g : Ev prog w A h₀ (eval func env) (VE (.type "list"))) (x : Ev prog w A h₀ (eval e env) (fun _ y h' => ∃ l t u v, y = .ref l ∧ IsRange h' l 0 n 1 t u v)) (hlen : n ≤ 2 ^ 20)
    (hs : starEach [e] env = [(false, eval e env)] := by rfl)
    (he : eval (.Call func [e] [] pos) env = (do callWith pos (← eval func env) [] (backTo pos (starEach [e] env)) (backToKw pos (keywordEach [] env))) := by rfl) : Ev prog w A h₀ (eval (.Call func [e] [] pos) env) (LT ((List.range n).map fun i => .int (Int.ofNat i))) :=
  Ev.call1 g (fun _ _ => keeps_type _) x (fun h a h' _ _ ⟨l, t, u, v, eb, hr⟩ => by
    subst eb
    exact (callListR hh hr hlen).mono fun h₁ y h₂ k _ z => Dn.lt (Le.trans ‹_› k) z) Dn.lt hs he

/-! ## displays -/
theorem newListE {vs : List Value} {h : Heap} {r : Rst} {tk : Nat} {Q : Value → Shared → Prop} {E : Value → Shared → Prop} (q : ∀ a h', Le h h' → h.get? a = none → h'.PlainList a vs.toArray → Q (.ref a) (r.st h' tk)) (hz : vs.length ≤ 2 ^ 20) : wpAny (model prog w) A (newList vs) Q E (r.st h tk) := by
  unfold newList
  exact wpAny_newObj_type (q _ _ (Le.push _ _) (fresh_size _) ⟨_, Heap.get?_push_size _ rfl⟩) (size_le_of (by simpa using hz))
theorem Ev.list0 {pos : Pos} : Ev prog w A h₀ (eval (.List [] pos) env) (LT []) := by
  intro r h tk Q E k q
  exact List_ (spliced_nil (newListE (fun a h' k' n l => q _ _ _ k' ⟨a, [], rfl, n, l, .nil⟩) (by simp)))
theorem Ev.list1 {e : Expr} {pos : Pos} {d : Dt} (x : Ev prog w A h₀ (eval e env) (DT d)) (hs : starEach [e] env = [(false, eval e env)] := by rfl) : Ev prog w A h₀ (eval (.List [e] pos) env) (LT [d]) := by
  intro r h tk Q E k q
  refine List_ ?_
  rw [hs]
  exact spliced_cons (x r h tk _ E k fun a h₁ t₁ k₁ f₁ => spliced_nil (newListE (fun b h' k' n l => q _ _ _ (k₁.trans k') ⟨b, [a], rfl, none_of_le k₁ n, l, .cons (f₁.le k') .nil⟩) (by simp)))
theorem Ev.list2 {e₁ e₂ : Expr} {pos : Pos} {d₁ d₂ : Dt} (x : Ev prog w A h₀ (eval e₁ env) (DT d₁)) (y : Ev prog w A h₀ (eval e₂ env) (DT d₂)) (hs : starEach [e₁, e₂] env = [(false, eval e₁ env), (false, eval e₂ env)] := by rfl) : Ev prog w A h₀ (eval (.List [e₁, e₂] pos) env) (LT [d₁, d₂]) := by
  intro r h tk Q E k q
  exact List_ (starE hs (x r h tk _ E k fun a h₁ t₁ k₁ f₁ => y r h₁ t₁ _ E (k.trans k₁) fun b h₂ t₂ k₂ f₂ => newListE (fun c h' k' n l => q _ _ _ (k₁.trans (k₂.trans k')) ⟨c, [a, b], rfl, none_of_le (k₁.trans k₂) n, l, .cons (f₁.le (k₂.trans k')) (.cons (f₂.le k') .nil)⟩) (by simp)))
theorem Ev.tup2 {e₁ e₂ : Expr} {n : Nat} {pos : Pos} {d₁ d₂ : Dt} (hh : A.handled = none) (x : Ev prog w A h₀ (eval e₁ env) (DT d₁)) (y : Ev prog w A h₀ (eval e₂ env) (DT d₂)) (hs : starEach [e₁, e₂] env = [(false, eval e₁ env), (false, eval e₂ env)] := by rfl) : Ev prog w A h₀ (eval (.Tuple [e₁, e₂] n pos) env) (DT (.tup [d₁, d₂])) := by
  intro r h tk Q E k q
  exact Tuple2 hh (x.lift k) (fun h₁ a k₁ _ => y.lift (k.trans k₁)) (fun a h₁ b h₂ t h₃ tk₃ k₁ f₁ k₂ f₂ k₃ _ ht => q _ _ _ (k₁.trans (k₂.trans k₃)) (.tup (vs := [a, b]) ht (.cons (f₁.le (k₂.trans k₃)) (.cons (f₂.le k₃) .nil)))) hs

/-! ## slices, sums and products of lists -/
theorem binAddL {a b : Addr} {vs us : List Value} {ds es : List Dt} (ha : h₀.IsList a vs.toArray) (hb : h₀.IsList b us.toArray) (hd : DVs h₀ vs ds) (he : DVs h₀ us es) (hz : ds.length + es.length ≤ 2 ^ 20) : Ev prog w A h₀ (binaryOp .Add (.ref a) (.ref b)) (LT (ds ++ es)) := by
  intro r h tk Q E k q
  obtain ⟨⟨c1, d1, t1, s1⟩, ho, hc, n, hdt⟩ := ha
  obtain ⟨⟨c2, d2, t2, s2⟩, ho2, hc2, n2, hdt2⟩ := hb
  simp only at hc hdt hc2 hdt2
  subst hc hdt hc2 hdt2
  refine concat_meets ⟨_, k _ _ ho, rfl⟩ ⟨_, k _ _ ho2, rfl⟩ noFill_list_add seq_list_add PySem.F.slot_list_add PySem.F.entry_list_add (PySem.F.args_list_add_2 _ _) (list_addW a b vs.toArray us.toArray n n2 d1 d2 s1 s2 (size_le_of (by simpa [hd.length, he.length] using hz))) ⟨k _ _ ho, k _ _ ho2, ?_⟩
  have e : vs.toArray ++ us.toArray = (vs ++ us).toArray := by simp
  rw [e]
  exact q _ _ _ (Le.push _ _) ⟨_, vs ++ us, rfl, fresh_size _, ⟨_, Heap.get?_push_size _ rfl⟩, (hd.append he).le (k.trans (Le.push _ _))⟩
theorem binMulL {a : Addr} {vs : List Value} {ds : List Dt} {x : Int} {u : Tok} (ha : h₀.IsList a vs.toArray) (hd : DVs h₀ vs ds) (hz : ds.length * x.toNat ≤ 256) (h0 : 0 ≤ x) (hn : x ≤ 256) : Ev prog w A h₀ (binaryOp .Mult (.ref a) (.int x u)) (LT (List.replicate x.toNat ds).flatten) := by
  intro r h tk Q E k q
  obtain ⟨⟨c1, d1, t1, s1⟩, ho, hc, m, hdt⟩ := ha
  simp only at hc hdt
  subst hc hdt
  have ho := k _ _ ho
  have hz' : vs.toArray.size * x.toNat ≤ 256 := by simpa [hd.length] using hz
  refine wpAny_binaryOp_repeat_ref (T := "list") (U := "int") (by decide) ⟨_, ho, rfl⟩ (fun s' => typeIs_int s' x u) noFill_list_mul F.fills_int_mul F.slot_int_rmul repeat_list F.slot_int_index.lookup
    (call_meets F.slot_int_rmul (typeIs_int _ x u) F.entry_int_rmul (F.args_int_rmul_2 _ _) (lm_int_rmul_list_any x u a vs.toArray m d1 s1)
      ⟨ho, rfl, ⟨_, ho, rfl⟩, call_meets F.slot_list_mul ⟨_, ho, rfl⟩ F.entry_list_mul (F.args_list_mul_2 _ _)
        (lm_list_mul_any a vs.toArray m d1 s1 x u ?c0 ?c1 ?c2) ⟨ho, ?_⟩⟩)
  case c0 => simp [Builtin.List.listFitsIndex]; omega
  case c1 => omega
  case c2 =>
    have e := sizeLine_eq
    unfold Builtin.List.listTooLong
    rw [decide_eq_true_eq, e]
    omega
  rw [listMul_foldl_if]
  exact q _ _ _ (Le.push _ _) ⟨_, _, rfl, fresh_size _, ⟨_, Heap.get?_push_size _ rfl⟩, (hd.flat _).le (k.trans (Le.push _ _))⟩
theorem Ev.addL {l r : Expr} {pos : Pos} {ds es : List Dt} (x : Ev prog w A h₀ (eval l env) (LV ds)) (y : Ev prog w A h₀ (eval r env) (LV es)) (hz : ds.length + es.length ≤ 2 ^ 20) : Ev prog w A h₀ (eval (.BinOp l .Add r pos) env) (LT (ds ++ es)) :=
  Ev.bin x (fun _ _ _ k l _ => y.lift (k.trans l)) fun h a h₁ b h₂ _ k₁ k₂ ⟨p, vs, e1, l1, d1⟩ ⟨q, us, e2, l2, d2⟩ => by
    subst e1 e2
    exact (binAddL (l1.at fun o e => k₂ _ o e) l2 (d1.le k₂) d2 hz).mono fun _ _ _ k _ z => Dn.lt (k₁.trans (k₂.trans k)) z
theorem Ev.mulL {l r : Expr} {pos : Pos} {ds : List Dt} {n : Int} (x : Ev prog w A h₀ (eval l env) (LV ds)) (y : Ev prog w A h₀ (eval r env) (DT (.int n))) (hz : ds.length * n.toNat ≤ 256) (h0 : 0 ≤ n) (hn : n ≤ 256) : Ev prog w A h₀ (eval (.BinOp l .Mult r pos) env) (LT (List.replicate n.toNat ds).flatten) :=
  Ev.bin x (fun _ _ _ k l _ => y.lift (k.trans l)) fun h a h₁ b h₂ _ k₁ k₂ ⟨p, vs, e1, l1, d1⟩ fb => by
    subst e1
    cases fb
    exact (binMulL (l1.at fun o e => k₂ _ o e) (d1.le k₂) hz h0 hn).mono fun _ _ _ k _ z => Dn.lt (k₁.trans (k₂.trans k)) z
end
end Mine

end
section
set_option maxRecDepth 100000
namespace Mine
open PySem PySem.W PySem.Calls PyProof.Rows
section
variable {prog : Program} {w : World} {A : Around} {h₀ : Heap} {env : Env}
def PT (o : Option Int) : Heap → Value → Heap → Prop := fun _ y _ => IsPart y o
theorem part0 : Ev prog w A h₀ (evalPart none env) (PT none) := fun _ h _ _ _ _ q => wpAny_evalPart_none (q _ h _ (Le.refl _) .none)
theorem part1 {e : Expr} {i : Int} (x : Ev prog w A h₀ (eval e env) (DT (.int i))) : Ev prog w A h₀ (evalPart (some e) env) (PT (some i)) :=
  fun r h tk Q E k q => wpAny_evalPart_some (x r h tk Q E k fun a h' t' k' f => q a h' t' k' (by cases f; exact .int _ _))
theorem Ev.sliceG {value : Expr} {lower upper step : Option Expr} {p pos : Pos} {ds es : List Dt} {lo hi st : Option Int} (x : Ev prog w A h₀ (eval value env) (LV ds)) (pl : Ev prog w A h₀ (evalPart lower env) (PT lo)) (pu : Ev prog w A h₀ (evalPart upper env) (PT hi)) (ps : Ev prog w A h₀ (evalPart step env) (PT st))
    (h0 : st ≠ some 0) (he : ∀ h vs, DVs h vs ds → DVs h (slicePick vs.toArray lo hi st).toList es) (hlen : ds.length ≤ 2 ^ 20) : Ev prog w A h₀ (eval (.Subscript value (.Slice lower upper step p) pos) env) (LT es) := by
  refine Ev.sub (ψ := fun _ y h' => ∃ sl vl vu vs, y = .ref sl ∧ h'.IsSliceOf sl vl vu vs ∧ IsPart vl lo ∧ IsPart vu hi ∧ IsPart vs st) x ?_ ?_
  · intro r h tk Q E k q
    refine wpAny_Slice (pl r h tk _ E k fun a h₁ t₁ k₁ f₁ => pu r h₁ t₁ _ E (k.trans k₁) fun b h₂ t₂ k₂ f₂ => ps r h₂ t₂ _ E (k.trans (k₁.trans k₂)) fun c h₃ t₃ k₃ f₃ => ?_)
    exact q _ _ _ (k₁.trans (k₂.trans (k₃.trans (Le.push _ _)))) ⟨_, a, b, c, rfl, Heap.IsSliceOf.new .., f₁, f₂, f₃⟩
  · intro h a h₁ b h₂ k₀ k₁ k₂ ⟨l, vs, e1, hl, hd⟩ ⟨sl, vl, vu, vs', e2, hs, p1, p2, p3⟩
    subst e1 e2
    intro r h₃ tk Q E k₃ q
    have hl3 : h₃.IsList l vs.toArray := hl.at fun o e => k₃ _ o (k₂ _ o e)
    have hs3 : h₃.IsSliceOf sl vl vu vs' := by
      obtain ⟨o, e, r⟩ := hs
      exact ⟨o, k₃ _ _ e, r⟩
    obtain ⟨ops, hops⟩ : ∃ ops, subscripted (.Slice lower upper step p) false (.ref l) (.ref sl) = operate ops (getItem (.ref l) (.ref sl)) := by
      cases step
      · exact ⟨[.ref sl, .ref l], rfl⟩
      · exact ⟨[.ref l, .ref sl], rfl⟩
    refine tail_any hl3.typeIs list_getitem_lookup (wpAny_getItem_list_slice hl3 hs3 p1 p2 p3 h0 ?_ (size_le_of (by simpa [hd.length] using hlen))) hops
    refine q _ _ _ (Le.push _ _) ⟨_, (slicePick vs.toArray lo hi st).toList, rfl, none_of_le (k₁.trans (k₂.trans k₃)) (fresh_size _), ⟨0, ?_⟩, (he _ _ hd).le (k₂.trans (k₃.trans (Le.push _ _)))⟩
    rw [Array.toArray_toList]
    exact Heap.get?_push_size _ rfl
theorem pick_take {h : Heap} {vs : List Value} {ds : List Dt} (hd : DVs h vs ds) (a b : Nat) (lo : Option Int) (hlo : lo = none ∧ a = 0 ∨ lo = some (a : Int)) : DVs h (slicePick vs.toArray lo (some (b : Int)) none).toList ((ds.drop a).take (b - a)) := by
  have e : sliceBounds lo (some (b : Int)) none vs.toArray.size = (((min a vs.length : Nat) : Int), ((min b vs.length : Nat) : Int), 1) := by
    rcases hlo with ⟨rfl, rfl⟩ | rfl
    · simp [sliceBounds]; omega
    · simp [sliceBounds]; omega
  rw [kmk_pick_nat _ e, show vs.toArray.toList = vs from rfl]
  have e2 : (vs.drop (min a vs.length)).take (min b vs.length - min a vs.length) = (vs.drop a).take (b - a) := by
    rw [kmk_drop_min]
    rw [List.take_eq_take_iff]
    simp only [List.length_drop]
    omega
  have := (hd.drop a).take (b - a)
  rw [← e2] at this
  simpa using this
theorem Ev.sliceTo {value e : Expr} {p pos : Pos} {ds : List Dt} {b : Nat} (x : Ev prog w A h₀ (eval value env) (LV ds)) (y : Ev prog w A h₀ (eval e env) (DT (.int b))) (hlen : ds.length ≤ 2 ^ 20) : Ev prog w A h₀ (eval (.Subscript value (.Slice none (some e) none p) pos) env) (LT (ds.take b)) :=
  Ev.sliceG x part0 (part1 y) part0 (by simp) (fun h vs hd => by simpa using pick_take hd 0 b none (.inl ⟨rfl, rfl⟩)) hlen
theorem Ev.sliceFT {value e₁ e₂ : Expr} {p pos : Pos} {ds : List Dt} {a b : Nat} (x : Ev prog w A h₀ (eval value env) (LV ds)) (z : Ev prog w A h₀ (eval e₁ env) (DT (.int a))) (y : Ev prog w A h₀ (eval e₂ env) (DT (.int b))) (hlen : ds.length ≤ 2 ^ 20) : Ev prog w A h₀ (eval (.Subscript value (.Slice (some e₁) (some e₂) none p) pos) env) (LT ((ds.drop a).take (b - a))) :=
  Ev.sliceG x (part1 z) (part1 y) part0 (by simp) (fun h vs hd => pick_take hd a b _ (.inr rfl)) hlen
theorem Ev.sliceRev {value e : Expr} {p pos : Pos} {ds : List Dt} (x : Ev prog w A h₀ (eval value env) (LV ds)) (y : Ev prog w A h₀ (eval e env) (DT (.int (-1)))) (hlen : ds.length ≤ 2 ^ 20) : Ev prog w A h₀ (eval (.Subscript value (.Slice none none (some e) p) pos) env) (LT ds.reverse) :=
  Ev.sliceG x part0 part0 (part1 y) (by decide) (fun h vs hd => by rw [krv_pick]; exact hd.reverse) hlen
end

/-! ## statements that turn a list -/
section
variable {prog : Program} {w : World} {A : Around} {g : Heap} {L : Addr} {h : Heap} {tk : Nat} {r : Rst} {m : Str → Option Value} {Φ : List (Addr × Obj)} {T : List (List Value × List Dt)} {env : Env} {E : Value → Shared → Prop}
theorem appendE {o e : Expr} {apos pos : Pos} {l : Addr} {vs : List Value} {k : Nat} {Q : Value → Shared → Prop} (W : Ws g L h m Φ T) (n : Nat) (hn : Φ[n]? = some (l, listOf vs.toArray k)) (hz : vs.length ≤ 2 ^ 20)
    (ho : Ev prog w A h (eval o env) (VE (.ref l)))
    (he : ∀ h₁ tk₁ (Q' : Value → Shared → Prop), Ws g L h₁ m Φ T → Le h h₁ → (∀ v h₂ tk₂ Φ₂ vs₂ k₂ T₂, Ws g L h₂ m Φ₂ T₂ → Φ₂[n]? = some (l, listOf vs₂.toArray k₂) → vs₂.length ≤ 2 ^ 20 → (∀ h₃ tk₃ k₃, Ws g L h₃ m (Φ₂.set n (l, listOf (vs₂ ++ [v]).toArray k₃)) T₂ → Q .none (r.st h₃ tk₃)) → Q' v (r.st h₂ tk₂)) → wpAny (model prog w) A (eval e env) Q' E (r.st h₁ tk₁))
    (hbase : attributeBase o "append" env (eval o env) = eval o env := by rfl) (hline : (apos.endLine == pos.line) = true := by decide)
    (hs : starEach [e] env = [(false, eval e env)] := by rfl) :
    wpAny (model prog w) A (eval (.Call (.Attribute o "append" apos) [e] [] pos) env) Q E (r.st h tk) := by
  refine wpAny_Call_method hbase (by rw [hs]; rfl) hline PySem.F.plainAttrs_list slot_list_append type_list_append ?_
  refine ho r h tk _ E (Le.refl _) fun y h₁ t₁ k₁ f₁ => ?_
  subst f₁
  have W₁ := W.le k₁
  have e₁ := W₁.get n hn
  refine ⟨⟨_, e₁, rfl⟩, fun a ea => by cases ea; exact ⟨_, e₁, rfl⟩, ?_⟩
  rw [hs]
  refine callWith_builtin rfl (evalArgs_plain (spliced_cons (he h₁ t₁ _ W₁ k₁ fun v h₂ t₂ Φ₂ vs₂ k₂ T₂ W₂ hn₂ hz₂ q => spliced_nil ?_)))
  have e₂ := W₂.get n hn₂
  refine wpAny_list_append_plain ⟨k₂, e₂⟩ (fun h₃ hl₃ hs₃ => ?_) (size_le_of (by simpa using hz₂))
  obtain ⟨k₃, e₃⟩ := hl₃
  exact q h₃ _ k₃ (W₂.setAt hn₂ hs₃ (by simpa using e₃) (fun xs k c _ => absurd c (by simp)))
/-- l.append(e) of a pure expression, as a statement -/
theorem appendS {o e : Expr} {apos pos spos : Pos} {rest : List Stmt} {l : Addr} {vs : List Value} {k : Nat} {φ : Heap → Value → Heap → Prop} {Q : Flow → Shared → Prop} (W : Ws g L h m Φ T) (n : Nat) (hn : Φ[n]? = some (l, listOf vs.toArray k)) (hz : vs.length ≤ 2 ^ 20)
    (ho : Ev prog w A h (eval o env) (VE (.ref l))) (he : Ev prog w A h (eval e env) φ)
    (q : ∀ v h₂, Le h h₂ → φ h v h₂ → Ws g L h₂ m Φ T → ∃ T', Ws g L h₂ m Φ T' ∧ ∀ h₃ tk₃ k₃, Ws g L h₃ m (Φ.set n (l, listOf (vs ++ [v]).toArray k₃)) T' → wpAny (model prog w) A (execs rest env) Q E (r.st h₃ tk₃))
    (dn : Dn φ) (hbase : attributeBase o "append" env (eval o env) = eval o env := by rfl) (hline : (apos.endLine == pos.line) = true := by decide)
    (hs : starEach [e] env = [(false, eval e env)] := by rfl) (hi : interactive env = false := by rfl) (hsw : swapsWith (.Call (.Attribute o "append" apos) [e] [] pos) none spos.line env = pure false := by rfl) :
    wpAny (model prog w) A (execs (.Expr (.Call (.Attribute o "append" apos) [e] [] pos) spos :: rest) env) Q E (r.st h tk) := by
  refine wpAny_execs_cons (wpAny_Expr (appendE W n hn hz ho (fun h₁ t₁ Q' W₁ k₁ z => he r h₁ t₁ Q' E k₁ fun v h₂ t₂ k₂ f₂ => ?_) hbase hline hs) hi hsw)
  obtain ⟨T', W', q'⟩ := q v h₂ (k₁.trans k₂) (dn k₁ f₂) (W₁.le k₂)
  exact z v h₂ t₂ Φ vs k T' W' hn hz fun h₃ t₃ k₃ W₃ => q' h₃ t₃ k₃ W₃
theorem popE {o e : Expr} {apos pos : Pos} {l : Addr} {vs : List Value} {k : Nat} {i : Int} {v : Value} {Q : Value → Shared → Prop} (W : Ws g L h m Φ T) (n : Nat) (hn : Φ[n]? = some (l, listOf vs.toArray k)) (hz : vs.length ≤ 2 ^ 20)
    (ho : Ev prog w A h (eval o env) (VE (.ref l))) (he : Ev prog w A h (eval e env) (DT (.int i))) (h0 : 0 ≤ i) (hv : vs[i.toNat]? = some v)
    (q : ∀ h₃ tk₃ k₃, Ws g L h₃ m (Φ.set n (l, listOf (vs.eraseIdx i.toNat).toArray k₃)) T → Q v (r.st h₃ tk₃))
    (hbase : attributeBase o "pop" env (eval o env) = eval o env := by rfl) (hline : (apos.endLine == pos.line) = true := by decide)
    (hs : starEach [e] env = [(false, eval e env)] := by rfl) :
    wpAny (model prog w) A (eval (.Call (.Attribute o "pop" apos) [e] [] pos) env) Q E (r.st h tk) := by
  refine wpAny_Call_method hbase (by rw [hs]; rfl) hline PySem.F.plainAttrs_list PySem.F.slot_list_pop PySem.F.type_list_pop ?_
  refine ho r h tk _ E (Le.refl _) fun y h₁ t₁ k₁ f₁ => ?_
  subst f₁
  have W₁ := W.le k₁
  have e₁ := W₁.get n hn
  refine ⟨⟨_, e₁, rfl⟩, fun a ea => by cases ea; exact ⟨_, e₁, rfl⟩, ?_⟩
  rw [hs]
  refine callWith_builtin rfl (evalArgs_plain (spliced_cons (he r h₁ t₁ _ E k₁ fun u h₂ t₂ k₂ f₂ => spliced_nil ?_)))
  cases f₂ with | int _ t =>
  have W₂ := W₁.le k₂
  have e₂ := W₂.get n hn
  have hi : i.toNat < vs.length := (List.getElem?_eq_some_iff.mp hv).1
  have hj : seqIndex? i vs.toArray.size = some i.toNat := by
    have h2 : ((decide (0 ≤ i)) && (decide (i < (vs.toArray.size : Int)))) = true := by simp only [Bool.and_eq_true, decide_eq_true_eq, List.size_toArray]; omega
    unfold seqIndex?
    simp only [if_neg (show ¬ i < 0 by omega), h2, if_true]
  refine call_meets PySem.F.slot_list_pop ⟨_, e₂, rfl⟩ PySem.F.entry_list_pop (PySem.F.args_list_pop_2 _ _) (PySem.MeetsSeq.list_pop_at l vs.toArray k i t i.toNat v (by simp [Builtin.List.listFitsIndex]; omega) hj (by simpa using hv) (size_le_of (by simpa using hz))) ⟨e₂, ?_⟩
  obtain ⟨k₃, e₃⟩ : ∃ k₃, (h₂.update l (Obj.mapSeq fun xs => xs.eraseIdxIfInBounds i.toNat)).get? l = some (listOf (vs.eraseIdx i.toNat).toArray k₃) := by
    refine ⟨k + 1, (Heap.get?_update_self _ e₂ rfl).trans ?_⟩
    simp [Obj.mapSeq, PySem.W.listOf, Array.eraseIdxIfInBounds, hi]
    rw [List.length_eraseIdx_of_lt hi]
    omega
  exact q _ _ k₃ (W₂.setAt hn (Heap.SameBut.update ..) e₃ (fun xs k c _ => absurd c (by simp)))
end
end Mine

end
section
set_option maxRecDepth 100000
namespace Mine
open PySem PySem.W PySem.Calls PyProof.Rows

theorem upd_ne {m : Str → Option Value} {x y : Str} {v : Value} (h : y ≠ x) : upd m x v y = m y := if_neg h
theorem upd_eq {m : Str → Option Value} {x : Str} {v : Value} : upd m x v x = some v := if_pos rfl
theorem upd_to {m : Str → Option Value} {x y : Str} {v : Value} {o : Option Value} (e : m y = o) (h : y ≠ x) : upd m x v y = o := (if_neg h).trans e
theorem Ws.isL {g : Heap} {L : Addr} {h : Heap} {m : Str → Option Value} {Φ : List (Addr × Obj)} {T : List (List Value × List Dt)} (W : Ws g L h m Φ T) (n : Nat) {a : Addr} {vs : List Value} {k : Nat} (e : Φ[n]? = some (a, PySem.W.listOf vs.toArray k) := by rfl) : h.IsList a vs.toArray := ⟨_, W.get n e, rfl, _, rfl⟩
theorem Ws.start {g h : Heap} {L : Addr} {m : Str → Option Value} (F : Fr g L h m) : Ws g L h m [] [] := ⟨F, fun p hp => (by cases hp), List.nodup_nil, fun p hp => by cases hp⟩
section
variable {prog : Program} {w : World} {A : Around} {g : Heap} {L : Addr} {h : Heap} {tk : Nat} {r : Rst} {m : Str → Option Value} {Φ : List (Addr × Obj)} {T : List (List Value × List Dt)} {env : Env} {E : Value → Shared → Prop}

theorem forListG {x : Str} {xp pos : Pos} {iter : Expr} {body : List Stmt} {φ : Heap → Value → Heap → Prop} {Q : Flow → Shared → Prop} (hh : A.handled = none) (W : Ws g L h m Φ T)
    (hi : Ev prog w A h (eval iter env) φ)
    (start : ∀ y h₁, Le h h₁ → φ h y h₁ → ∃ l n₀ vs₀ Φ₁ T₁, ∃ J : LInv, y = .ref l ∧ Ws g L h₁ m Φ₁ T₁ ∧ J n₀ 0 vs₀ m Φ₁ T₁ ∧ (∀ n i vs m Φ T H, J n i vs m Φ T → Ws g L H m Φ T → H.IsList l vs.toArray) ∧
    (∀ n i vs v m Φ T H tk I oI, J n i vs m Φ T → vs[i]? = some v → Ws g L H m ((I, oI) :: Φ) T →
      wpAny (model prog w) A (assign (.Name x xp) env v) (fun _ s₂ => wpAny (model prog w) A (execs body env) (TEnd g L r I oI J n i Q) NoE s₂) NoE (r.st H tk)) ∧
    (∀ n i vs m Φ T H tk, J n i vs m Φ T → vs[i]? = none → Ws g L H m Φ T → Q .next (r.st H tk)))
    (hs : ∀ x, foldedSetIterable iter env x = pure x := by intro _; rfl) : wpAny (model prog w) A (exec (.For (.Name x xp) iter body [] pos) env) Q NoE (r.st h tk) := by
  refine wpAny_For (hi r h tk _ _ (Le.refl _) fun y h₁ t₁ k₁ f₁ => ?_) hs
  obtain ⟨l, n₀, vs₀, Φ₁, T₁, J, rfl, W₁, hJ, hl, turn, done⟩ := start y h₁ k₁ f₁
  have hl₁ := hl _ _ _ _ _ _ _ hJ W₁
  refine wpAny_pyIter_list hl₁ ?_
  refine codeAny_forLoop (fun n s => ∃ i vs m Φ T H tk I oI, s = r.st H tk ∧ J n i vs m Φ T ∧ Ws g L H m ((I, oI) :: Φ) T ∧ I = h₁.objs.size ∧ oI.cls = .type "list_iterator" ∧ oI.data = .fields #[.ref l, .int i 0]) ?_ n₀ ⟨0, vs₀, m, Φ₁, T₁, _, t₁, _, _, rfl, hJ, W₁.add (Le.push _ _) (fresh_size _) (Heap.get?_push_size _ rfl), rfl, rfl, rfl⟩
  · clear hJ W₁ hl₁
    rintro n s ⟨i, vs, m, Φ, T, H, tk, I, oI, rfl, hJ', W', rfl, hc, hd⟩
    have D := W'.N (_, oI) (.head _)
    have ntI : ∀ xs k, oI.cls = .type "tuple" → oI.data = .seq xs k → False := fun xs k c q => by rw [hd] at q; cases q
    have hit : H.IsListIter h₁.objs.size l i := ⟨oI, D.1, hc, hd⟩
    have hL : H.IsList l vs.toArray := hl _ _ _ _ _ _ _ hJ' (W'.sub (List.sublist_cons_self _ _) fun _ p => p)
    cases hv : vs[i]? with
    | none =>
      refine wpAny_pyNext_list_end hh hit hL (by simpa using hv) fun h₂ k₂ => wpAny_execs_nil ?_
      exact done _ _ _ _ _ _ _ _ hJ' hv (W'.rest k₂ ntI)
    | some v =>
      refine wpAny_pyNext_list_item hit hL (x := v) (by simpa using hv) fun h₂ hit₂ hs₂ => ?_
      obtain ⟨o₂, e₂, c₂, d₂⟩ := hit₂
      have W₂ : Ws g L h₂ m ((h₁.objs.size, o₂) :: Φ) T := W'.setAt (n := 0) rfl hs₂ e₂ ntI
      refine wpAny_mono (turn n i vs v m Φ T h₂ tk _ o₂ hJ' hv W₂) (fun _ s₂ q => wpAny_mono q (fun f s₃ z => ?_) fun _ _ z => z.elim) fun _ _ z => z.elim
      have fin : (∃ n' vs' m' Φ' T' H' tk', s₃ = r.st H' tk' ∧ n' < n ∧ J n' (i + 1) vs' m' Φ' T' ∧ Ws g L H' m' ((h₁.objs.size, o₂) :: Φ') T') →
          ∃ m, m < n ∧ (∃ i vs m' Φ T H tk I oI, s₃ = r.st H tk ∧ J m i vs m' Φ T ∧ Ws g L H m' ((I, oI) :: Φ) T ∧ I = h₁.objs.size ∧ oI.cls = .type "list_iterator" ∧ oI.data = .fields #[.ref l, .int i 0]) := by
        rintro ⟨n', vs', m', Φ', T', H', tk', e, hn, hJ'', W''⟩
        exact ⟨n', hn, i + 1, vs', m', Φ', T', H', tk', _, o₂, e, hJ'', W'', rfl, c₂, d₂⟩
      cases f with
      | next => exact fin z
      | cont => exact fin z
      | brk => exact z
      | ret v => exact z

/-- the end of a turn of forEach -/
def EEnd (g : Heap) (L : Addr) (r : Rst) (X : List (Addr × Obj)) (p : List Value × List Dt) (J : RInv) (i : Nat) (Q : Flow → Shared → Prop) (f : Flow) (s : Shared) : Prop :=
  match f with
  | .brk => Q .next s
  | .ret v => Q (.ret v) s
  | _ => ∃ m' Φ' T' H' tk', s = r.st H' tk' ∧ J (i + 1) m' Φ' T' ∧ Ws g L H' m' (X ++ Φ') (p :: T')

/-- a loop over a fresh list that nobody else knows -/
theorem forEach {x : Str} {xp pos : Pos} {iter : Expr} {body : List Stmt} {ds : List Dt} {Q : Flow → Shared → Prop} (J : RInv) (hh : A.handled = none) (W : Ws g L h m Φ T)
    (hi : Ev prog w A h (eval iter env) (LT ds)) (hJ : J 0 m Φ T)
    (turn : ∀ i d v m Φ T H tk I oI a oa p, J i m Φ T → ds[i]? = some d → DV H v d → Ws g L H m ((I, oI) :: (a, oa) :: Φ) (p :: T) →
      wpAny (model prog w) A (assign (.Name x xp) env v) (fun _ s₂ => wpAny (model prog w) A (execs body env) (EEnd g L r [(I, oI), (a, oa)] p J i Q) NoE s₂) NoE (r.st H tk))
    (done : ∀ m Φ T H tk, J ds.length m Φ T → Ws g L H m Φ T → Q .next (r.st H tk))
    (hs : ∀ x, foldedSetIterable iter env x = pure x := by intro _; rfl) : wpAny (model prog w) A (exec (.For (.Name x xp) iter body [] pos) env) Q NoE (r.st h tk) := by
  refine forListG hh W hi (fun y h₁ k₁ f₁ => ?_) hs
  obtain ⟨a, vs, n, rfl, W₁⟩ := W.addL k₁ f₁
  have hlen : vs.length = ds.length := (W₁.dvs 0).length
  refine ⟨a, ds.length, vs, _, _, fun n' i vs' m Φ' T' => n' = ds.length - i ∧ i ≤ ds.length ∧ vs' = vs ∧ ∃ Φ T, Φ' = (a, listOf vs.toArray n) :: Φ ∧ T' = (vs, ds) :: T ∧ J i m Φ T, rfl, W₁, ⟨rfl, Nat.zero_le _, rfl, Φ, T, rfl, rfl, hJ⟩, ?_, ?_, ?_⟩
  · rintro n' i vs' m Φ' T' H ⟨-, -, rfl, Φ, T, rfl, rfl, hJ⟩ W'
    exact ⟨_, W'.get 0, rfl, _, rfl⟩
  · rintro n' i vs' v m Φ' T' H tk I oI ⟨rfl, hi, rfl, Φ, T, rfl, rfl, hJ⟩ hv W'
    obtain ⟨d, hd, hv'⟩ := (W'.dvs 0).get hv
    have hlt : i < ds.length := (List.getElem?_eq_some_iff.mp hd).1
    refine wpAny_mono (turn i d v m Φ T H tk I oI _ _ _ hJ hd hv' W') (fun _ s₂ q => wpAny_mono q (fun f s₃ z => ?_) fun _ _ z => z) fun _ _ z => z
    have fin : (∃ m' Φ' T' H' tk', s₃ = r.st H' tk' ∧ J (i + 1) m' Φ' T' ∧ Ws g L H' m' ([(I, oI), (a, listOf vs'.toArray n)] ++ Φ') ((vs', ds) :: T')) → TEnd g L r I oI (fun n' i vs'' m Φ' T' => n' = ds.length - i ∧ i ≤ ds.length ∧ vs'' = vs' ∧ ∃ Φ T, Φ' = (a, listOf vs'.toArray n) :: Φ ∧ T' = (vs', ds) :: T ∧ J i m Φ T) (ds.length - i) i Q .next s₃ := by
      rintro ⟨m', Φ', T', H', tk', e, hJ', W''⟩
      exact ⟨_, vs', m', _, _, H', tk', e, by omega, ⟨rfl, hlt, rfl, Φ', T', rfl, rfl, hJ'⟩, W''⟩
    cases f with
    | next => exact fin z
    | cont => exact fin z
    | brk => exact z
    | ret v => exact z
  · rintro n' i vs' m Φ' T' H tk ⟨rfl, hi, rfl, Φ, T, rfl, rfl, hJ⟩ hv W'
    have : i = ds.length := by have := List.getElem?_eq_none_iff.mp hv; omega
    subst this
    exact done _ _ _ _ _ hJ (W'.sub (List.sublist_cons_self _ _) fun p hp => .tail _ hp)
end
end Mine

end
section
set_option maxRecDepth 100000
namespace Mine
open PySem PySem.W PySem.Calls PyProof.Rows
def thenS (a b : List Nat) : Option (List Nat) := a.mapM (fun o => b[o]?)
theorem thenS_eq {a b c : List Nat} (h : thenS a b = some c) : c = a.map (fun o => b.getD o 0) ∧ ∀ o ∈ a, o < b.length := by
  unfold thenS at h
  induction a generalizing c with
  | nil => simp at h; subst h; simp
  | cons x a ih =>
    simp only [List.mapM_cons, Option.pure_def, Option.bind_eq_bind, Option.bind_eq_some_iff, Option.some.injEq] at h
    obtain ⟨y, hy, c', hc, rfl⟩ := h
    obtain ⟨e1, e2⟩ := ih hc
    refine ⟨by rw [e1]; simp [List.getD, hy], ?_⟩
    intro o ho
    rcases List.mem_cons.mp ho with rfl | ho
    · exact (List.getElem?_eq_some_iff.mp hy).1
    · exact e2 o ho
set_option profiler true
theorem then_spec {prog : Program} {w : World} {A : Around} {h₀ : Heap} (hh : A.handled = none) (hroom : A.depth < recursionLimit) (B : Bs w h₀) {a b c : List Nat} (hs : thenS a b = some c) {u v : Value} (hu : DV h₀ u (.bts a)) (hv : DV h₀ v (.bts b))
    (ha : a.length ≤ 2 ^ 20) (hb : b.length ≤ 2 ^ 20) : Ev prog w A h₀ (call (.ref 40) [u, v]) (DT (.bts c)) := by
  obtain ⟨rfl, hlt⟩ := thenS_eq hs
  have hb256 : ∀ x ∈ b, x < 256 := by cases hv; assumption
  have hc256 : ∀ n ∈ a.map (fun o => b.getD o 0), n < 256 := by
    intro n hn
    obtain ⟨o, ho, rfl⟩ := List.mem_map.mp hn
    have h1 := hlt o ho
    have : b.getD o 0 = b[o] := by simp [List.getD, h1]
    rw [this]
    exact hb256 _ (List.getElem_mem h1)
  refine Ev.fn (binds := [("one", u), ("other", v)]) hroom B (B.1 40 _ rfl) rfl (codeRec_of B.1 rfl) rfl rfl rfl ?_ ?_
  · intro n x hx
    simp only [List.mem_cons, List.not_mem_nil, or_false] at hx
    rcases hx with rfl | rfl
    · exact .inl rfl
    · exact .inr ⟨rfl, rfl⟩
  · intro r h hl h₁ tk F C
    have k : Le h h₁ := F.keep
    have B1 := B.le (hl.trans k)
    have C1 := (C "other" _ rfl).1
    refine retE k (Ev.bytesL hh (Ev.boot B1 rfl rfl (by decide) rfl rfl rfl rfl) ?_ hc256 (by simpa using ha)) Dn.dt
    refine Ev.compN (ds := a.map fun i => .int (Int.ofNat i)) (fun d => match d with | .int i => .int (Int.ofNat (b.getD i.toNat 0)) | d => d) (by simp) rfl (by decide) rfl (by decide) rfl (by simpa using ha)
      (Sr.bts hh (Ev.dname (.loc rfl rfl F.ns rfl) (hu.le (hl.trans k)))) ?_
    intro d hd C v' h' m k' hv' hn hm
    obtain ⟨i, hi, rfl⟩ := List.mem_map.mp hd
    refine Ev.itemB (l := b) (Ev.dname (.cell rfl rfl rfl (C1.keeps k')) (hv.le (hl.trans (k.trans k')))) (Ev.dname (.loc rfl rfl hn hm) hv') (by simp) ?_ hb
    simp [List.getD, hlt i hi]
end Mine

end
section
set_option maxRecDepth 100000
namespace Mine
open PySem PySem.W PySem.Calls PyProof.Rows
abbrev nats (l : List Nat) : List Dt := l.map fun i => .int (Int.ofNat i)
def drawStep (p : List Nat × List Nat) (n : Int) : List Nat × List Nat :=
  (p.1.eraseIdx (n.fmod p.1.length).toNat, p.2 ++ [p.1.getD (n.fmod p.1.length).toNat 0])
def drawFour (ns : List Int) : List Int := (ns ++ [0, 0, 0, 0]).take 4
def drawS (ns : List Int) : List Nat := ((drawFour ns).foldl drawStep (List.range 4, [])).2
theorem drawFour_len (ns : List Int) : (drawFour ns).length = 4 := by simp [drawFour]
theorem draw_inv (l : List Int) : ∀ (p : List Nat × List Nat), (∀ x ∈ p.1, x < 4) → (∀ x ∈ p.2, x < 4) → l.length ≤ p.1.length →
    (l.foldl drawStep p).1.length = p.1.length - l.length ∧ (l.foldl drawStep p).2.length = p.2.length + l.length ∧ (∀ x ∈ (l.foldl drawStep p).1, x < 4) ∧ (∀ x ∈ (l.foldl drawStep p).2, x < 4) := by
  induction l with
  | nil => intro p h1 h2 _; exact ⟨rfl, rfl, h1, h2⟩
  | cons n l ih =>
    intro p h1 h2 hl
    simp only [List.length_cons] at hl
    have hp : (0 : Int) < p.1.length := by omega
    have a := Int.fmod_nonneg_of_pos n hp
    have b := Int.fmod_lt_of_pos n hp
    have hk : (n.fmod p.1.length).toNat < p.1.length := by omega
    have e1 : (drawStep p n).1.length = p.1.length - 1 := by simp [drawStep, List.length_eraseIdx_of_lt hk]
    have e2 : (drawStep p n).2.length = p.2.length + 1 := by simp [drawStep]
    have q := ih (drawStep p n) (fun x hx => h1 x (List.mem_of_mem_eraseIdx hx)) (fun x hx => by
      rcases List.mem_append.mp hx with hx | hx
      · exact h2 x hx
      · rw [List.mem_singleton] at hx
        subst hx
        simp only [List.getD, List.getElem?_eq_getElem hk, Option.getD_some]
        exact h1 _ (List.getElem_mem hk)) (by omega)
    rw [List.foldl_cons]
    refine ⟨?_, ?_, q.2.2⟩
    · rw [q.1, e1, List.length_cons]; omega
    · rw [q.2.1, e2, List.length_cons]; omega
def drawAt (ns : List Int) (i : Nat) : List Nat × List Nat := ((drawFour ns).take i).foldl drawStep (List.range 4, [])
theorem drawAt_inv (ns : List Int) (i : Nat) (hi : i ≤ 4) : (drawAt ns i).1.length = 4 - i ∧ (drawAt ns i).2.length = i ∧ (∀ x ∈ (drawAt ns i).1, x < 4) ∧ (∀ x ∈ (drawAt ns i).2, x < 4) := by
  have q := draw_inv ((drawFour ns).take i) (List.range 4, []) (by simp) (by simp) (by simp [drawFour_len]; omega)
  have e : ((drawFour ns).take i).length = i := by simp [drawFour_len, hi]
  unfold drawAt
  refine ⟨by rw [q.1, e]; rfl, by rw [q.2.1, e]; simp, q.2.2⟩
theorem drawAt_succ (ns : List Int) (i : Nat) {n : Int} (hi : (drawFour ns)[i]? = some n) : drawAt ns (i + 1) = drawStep (drawAt ns i) n := by
  unfold drawAt
  rw [List.take_succ, hi, List.foldl_append]
  rfl
theorem nats_erase : ∀ (l : List Nat) (k : Nat), nats (l.eraseIdx k) = (nats l).eraseIdx k
  | [], _ => rfl
  | _ :: _, 0 => rfl
  | x :: l, k + 1 => congrArg (Dt.int (Int.ofNat x) :: ·) (nats_erase l k)
theorem draw_spec {prog : Program} {w : World} {A : Around} {h₀ : Heap} (hh : A.handled = none) (hroom : A.depth < recursionLimit) (B : Bs w h₀) {ns : List Int} {a : Addr} {vs : List Value} (hl : h₀.IsList a vs.toArray) (hv : DVs h₀ vs (ns.map Dt.int)) (hz : ns.length ≤ 2 ^ 10) :
    Ev prog w A h₀ (call (.ref 54) [.ref a]) (DT (.bts (drawS ns))) := by
  refine Ev.fn (binds := [("numbers", .ref a)]) hroom B (B.1 54 _ rfl) rfl (codeRec_of B.1 rfl) rfl rfl rfl ?_ ?_
  · intro n x hx
    simp only [List.mem_cons, List.not_mem_nil, or_false] at hx
    subst hx
    exact .inl rfl
  · intro r h hl0 h₁ tk F C
    have k : Le h h₁ := F.keep
    have B1 := B.le (hl0.trans k)
    have W₀ : Ws h h.objs.size h₁ _ [] [] := ⟨F, fun p hp => (by cases hp), List.nodup_nil, fun p hp => by cases hp⟩
    refine asg2 (φ := LT (nats (List.range 4))) (ψ := LT []) hh W₀ rfl rfl rfl rfl ?_ (fun _ _ _ _ => Ev.list0) ?_
    · refine Ev.listR hh (Ev.boot B1 rfl rfl (by decide) rfl rfl rfl rfl) ?_ (by decide)
      exact Ev.range1 (Ev.boot B1 rfl rfl (by decide) rfl rfl rfl rfl) Ev.cint
    · intro y h₂ z h₃ k₂ f₂ k₃ f₃
      obtain ⟨aL, vL, nL, rfl, W₂⟩ := W₀.addL k₂ f₂
      obtain ⟨aF, vF, nF, rfl, W₃⟩ := W₂.addL k₃ f₃
      refine ⟨_, _, W₃, fun h₄ t₄ W₄ => ?_⟩
      have B4 := B1.le (k₂.trans k₃)
      refine wpAny_execs_cons ?_
      refine forEach (ds := (drawFour ns).map Dt.int) (fun i m Φ T => i ≤ 4 ∧ m "left" = some (.ref aL) ∧ m "found" = some (.ref aF) ∧ ∃ vL vF nL nF, Φ = [(aF, PySem.W.listOf vF.toArray nF), (aL, PySem.W.listOf vL.toArray nL)] ∧ T = [(vF, nats (drawAt ns i).2), (vL, nats (drawAt ns i).1)]) hh W₄ ?_ ?_ ?_ ?_
      · have hl4 : h₄.IsList a vs.toArray := hl.at fun o e => W₄.keep _ o (hl0 _ o e)
        have hv4 : DVs h₄ vs (ns.map Dt.int) := hv.le (hl0.trans W₄.keep)
        have e4 : (drawFour ns).map Dt.int = List.take 4 (ns.map Dt.int ++ (List.replicate 4 [Dt.int 0]).flatten) := by
          simp only [drawFour, List.map_take, List.map_append]; rfl
        rw [e4]
        refine Ev.sliceTo (Ev.lv (Ev.addL (Ev.lname (.loc rfl rfl W₄.F.ns rfl) hl4 hv4) (Ev.lv (Ev.mulL (Ev.lv (Ev.list1 Ev.cint)) Ev.cint ?_ ?_ ?_)) ?_)) Ev.cint ?_
        · decide
        · decide
        · decide
        · simp; omega
        · simp; omega
      · exact ⟨by decide, rfl, rfl, vL, vF, nL, nF, rfl, rfl⟩
      · rintro i d v m Φ T H tk I oI b ob p ⟨hi4, hmL, hmF, vL, vF, nL, nF, rfl, rfl⟩ hd hv W'
        obtain ⟨n, hn, rfl⟩ : ∃ n, (drawFour ns)[i]? = some n ∧ d = .int n := by
          rw [List.getElem?_map] at hd
          cases hq : (drawFour ns)[i]? with
          | none => rw [hq] at hd; cases hd
          | some n => rw [hq] at hd; cases hd; exact ⟨n, rfl, rfl⟩
        cases hv with | int _ t =>
        have hlt : i < 4 := by have := (List.getElem?_eq_some_iff.mp hn).1; rw [drawFour_len] at this; exact this
        obtain ⟨i1, i2, i3, i4⟩ := drawAt_inv ns i hi4
        refine wpAny_assign_Name (stL W' rfl rfl rfl fun h₅ t₅ W₅ => ?_)
        have hp : (0 : Int) < (drawAt ns i).1.length := by omega
        have q1 := Int.fmod_nonneg_of_pos n hp
        have q2 := Int.fmod_lt_of_pos n hp
        have vlen := (W₅.dvs 2).length
        simp only [List.length_map] at vlen
        obtain ⟨x, hx⟩ : ∃ x, vL[(n.fmod (drawAt ns i).1.length).toNat]? = some x := ⟨_, List.getElem?_eq_getElem (by omega)⟩
        have flen := (W₅.dvs 1).length
        simp only [List.length_map] at flen
        refine wpAny_execs_cons (wpAny_Expr (appendE W₅ 2 rfl (by omega) (Ev.name (.loc rfl rfl W₅.F.ns ?_)) fun h₆ t₆ Q' W₆ k₆ z => ?_) rfl rfl)
        · exact upd_to hmF (by decide)
        · refine popE (i := n.fmod (drawAt ns i).1.length) (v := x) W₆ 3 rfl (by omega) (Ev.name (.loc rfl rfl W₆.F.ns ?_)) ?_ q1 hx ?_
          · exact upd_to hmL (by decide)
          · have B6 := B.le (hl0.trans W₆.keep)
            refine Ev.binI (Ev.dname (.loc rfl rfl W₆.F.ns upd_eq) (.int n t)) (Ev.lenV (Ev.boot B6 rfl rfl (by decide) rfl rfl rfl rfl) (Ev.lname (.loc rfl rfl W₆.F.ns (upd_to hmL (by decide))) (W₆.isL 3) (W₆.dvs 2)) ?_) ?_
            · simp; omega
            · rw [List.length_map]; exact BinI.mod (by omega)
          · intro h₇ t₇ k₇ W₇
            refine z _ _ _ _ vF _ _ W₇ rfl (by omega) fun h₈ t₈ k₈ W₈ => ?_
            refine wpAny_execs_nil ?_
            have i5 : (n.fmod (drawAt ns i).1.length).toNat < (drawAt ns i).1.length := by omega
            refine ⟨_, _, _, _, _, rfl, ⟨by omega, upd_to hmL (by decide), upd_to hmF (by decide), vL.eraseIdx (n.fmod (drawAt ns i).1.length).toNat, vF ++ [x], k₇, k₈, rfl, rfl⟩, ⟨W₈.F, W₈.N, W₈.nd, ?_⟩⟩
            have D1 := W₈.dvs 1
            have D2 := W₈.dvs 2
            rw [drawAt_succ ns i hn]
            intro p hp
            simp only [List.mem_cons, List.not_mem_nil, or_false] at hp
            rcases hp with rfl | rfl | rfl
            · exact W₈.dvs 0
            · obtain ⟨dx, hdx, hxd⟩ := D2.get hx
              have : dx = .int (Int.ofNat ((drawAt ns i).1.getD (n.fmod (drawAt ns i).1.length).toNat 0)) := by
                rw [List.getElem?_map, List.getElem?_eq_getElem i5] at hdx
                cases hdx
                simp [List.getD, i5]
              subst this
              show DVs h₈ (vF ++ [x]) (nats ((drawAt ns i).2 ++ [_]))
              rw [nats, List.map_append]
              exact D1.snoc hxd
            · have := D2.erase (n.fmod (drawAt ns i).1.length).toNat
              show DVs h₈ _ (nats ((drawAt ns i).1.eraseIdx _))
              rw [nats_erase]
              exact this
      · rintro m Φ T H tk ⟨hi4, hmL, hmF, vL, vF, nL, nF, rfl, rfl⟩ W'
        have e4 : ((drawFour ns).map Dt.int).length = 4 := by simp [drawFour_len]
        rw [e4] at W'
        have B5 := B.le (hl0.trans W'.keep)
        have e5 : drawS ns = (drawAt ns 4).2 := by unfold drawAt drawS; rw [List.take_of_length_le (Nat.le_of_eq (drawFour_len ns))]
        obtain ⟨i1, i2, i3, i4⟩ := drawAt_inv ns 4 (Nat.le_refl _)
        rw [e5]
        refine retE W'.keep (Ev.bytesV hh (Ev.boot B5 rfl rfl (by decide) rfl rfl rfl rfl) (Ev.lname (.loc rfl rfl W'.F.ns hmF) (W'.isL 0) (W'.dvs 0)) ?_ ?_) Dn.dt
        · intro x hx; have := i4 x hx; omega
        · rw [i2]; decide
end Mine

end
section
set_option maxRecDepth 100000
namespace Mine
open PySem PySem.W PySem.Calls PyProof.Rows
/-! ## bytes(range(n)) -/
theorem rg_no_bytes : typeLookup (.type "range") "__bytes__" = Pure.pure none := by rw [typeLookup_type, builtinLookup_eq_fast]; kernel_rfl
theorem rg_no_index : typeLookup (.type "range") "__index__" = Pure.pure none := by rw [typeLookup_type, builtinLookup_eq_fast]; kernel_rfl
theorem rg_no_buffer : typeLookup (.type "range") "__buffer__" = Pure.pure none := by rw [typeLookup_type, builtinLookup_eq_fast]; kernel_rfl
theorem split_rlen : splitId "range.__len__" = some ("range", "__len__") := by decide +kernel
theorem sub_rr : isSubtype (.type "range") (.type "range") = Pure.pure true := by rw [isSubtype_type]; kernel_rfl
theorem mkB_range_succ (i : Nat) : mkB (List.range (i + 1)) = (mkB (List.range i)).push i.toUInt8 := by
  simp [mkB, List.range_succ]
theorem mkB_size (l : List Nat) : (mkB l).size = l.length := by simp [mkB]
section
variable {prog : Program} {w : World} {A : Around} {E : Value → Shared → Prop} {s : Shared}
theorem rg_loop {R : Result → Shared → Prop} {I S : Addr} {n : Nat} (hh : A.handled = none) (hz : n ≤ 256) (hIS : I ≠ S) :
    ∀ (k i : Nat) (s : Shared), n - i = k → i ≤ n → IsRangeIter s.heap I (0 + (i : Int) * 1) ((n : Int) - i) 1 → s.heap.get? S = some { cls := .type "bytearray", data := .bytearray (mkB (List.range i)) } →
      (∀ h' t k', (∀ b o, b ≠ I → b ≠ S → s.heap.get? b = some o → h'.get? b = some o) → R (.ok (.ret (.bytes (mkB (List.range n)) t))) { s with heap := h', toks := k' }) →
      codeAny (model prog w) A (.builtin "bytes.__new__.loop" ⟨[.type "bytes", .ref I, .ref S], []⟩) R s := by
  intro k
  induction k with
  | zero =>
    intro i s hk hle hit hS hR
    have hin : i = n := by omega
    subst hin
    refine codeAny_builtin F.bm_entry_loop ?_
    rw [Around.under_plainId F.bm_plain_loop _]
    show wpAny _ A.in1 (pyNext (.ref I) >>= _) _ _ s
    refine wpAny_bind (wpAny_pyNext_range_end hh hit (by omega) fun h' he => ?_)
    have hS' := he S _ (Ne.symm hIS) hS
    refine wpAny_bind ?_
    unfold Builtin.Bytes.payload Builtin.Bytes.payload?
    refine wpAny_bind (wpAny_bind (wpAny_load hS' ?_))
    refine wpAny_pure (wpAny_pure ?_)
    refine wpAny_bind (wpAny_mkBytes ?_ (by rw [mkB_size, List.length_range]; exact size_le_of (by omega)))
    show wpAny _ _ (if (Value.type "bytes" == Value.type "bytes") = true then _ else _) _ _ _
    refine bm_if_true (by decide) ?_
    first
      | exact wpAny_pure (hR h' _ _ fun b o hb _ e => he b o hb e)
      | exact wpAny_bind (wpAny_pure (wpAny_pure (hR h' _ _ fun b o hb _ e => he b o hb e)))
  | succ k ih =>
    intro i s hk hle hit hS hR
    have hlt : i < n := by omega
    refine codeAny_builtin F.bm_entry_loop ?_
    rw [Around.under_plainId F.bm_plain_loop _]
    show wpAny _ A.in1 (pyNext (.ref I) >>= _) _ _ s
    refine wpAny_bind (wpAny_pyNext_range_item hit (by omega) fun h' hit' hs => ?_)
    have hS' := (hs.2 S (Ne.symm hIS)).trans hS
    refine wpAny_bind (wpAny_holding (wpAny_of_eq (rfl : asIndex (.int _ _) = Pure.pure _) ?_))
    refine wpAny_bind (wpAny_letGo ?_)
    refine bm_if_false (by simp only [Bool.or_eq_false_iff, decide_eq_false_iff_not]; omega) ?_
    refine wpAny_bind ?_
    have en : (0 + (i : Int) * 1).toNat = i := by omega
    rw [en]
    show wpAny _ _ (updateBytearray S (·.push i.toUInt8)) _ _ _
    unfold updateBytearray
    refine wpAny_bind (wpAny_load hS' ?_)
    show wpAny _ _ (update S (Obj.mapBytearray (·.push i.toUInt8)) >>= fun _ => lookBehind S) _ _ _
    refine wpAny_bind (wpAny_update hS' ?_)
    have hS₂ : (h'.update S (Obj.mapBytearray (·.push i.toUInt8))).get? S = some { cls := .type "bytearray", data := .bytearray (mkB (List.range (i + 1))) } := by
      rw [mkB_range_succ]
      exact Heap.get?_update_self (Obj.mapBytearray (·.push i.toUInt8)) hS' rfl
    refine wpAny_lookBehind hS₂ ?_ ?_
    · show (if (mkB (List.range (i + 1))).size > sizeLine then some "bytearray:memory" else none) = none
      rw [if_neg]
      rw [mkB_size, List.length_range]
      have : i + 1 ≤ sizeLine := size_le_of (by omega)
      omega
    · refine wpAny_pure ⟨plainId_quiet F.bm_plain_loop _, ih (i + 1) { s with heap := h'.update S (Obj.mapBytearray (·.push i.toUInt8)), toks := s.toks + 1 } (by omega) hlt ?_ hS₂ fun h3 t' k' hk3 => ?_⟩
      · have e1 : (0 + ((i + 1 : Nat) : Int) * 1) = 0 + (i : Int) * 1 + 1 := by omega
        have e2 : ((n : Int) - ((i + 1 : Nat) : Int)) = (n : Int) - i - 1 := by omega
        rw [e1, e2]
        exact (Heap.get?_update_other _ _ (Ne.symm hIS)).trans hit'
      · exact hR h3 t' k' fun b o hbI hbS e => hk3 b o hbI hbS ((Heap.get?_update_other _ _ (Ne.symm hbS)).trans (hs.extBut b o hbI e))
theorem rg_new {l : Addr} {n : Nat} {t u v : Tok} {Q : Value → Shared → Prop} (hh : A.handled = none) (hl : IsRange s.heap l 0 n 1 t u v) (hz : n ≤ 256)
    (hQ : ∀ h' t k, (∀ b o, s.heap.get? b = some o → h'.get? b = some o) → Q (.bytes (mkB (List.range n)) t) { s with heap := h', toks := k }) :
    codeAny (model prog w) A (.call (.builtin "bytes.__new__") ⟨[.type "bytes", .ref l], []⟩) (wants Q E) s := by
  refine codeAny_of_tree ?_
  show wpAny _ A.in1 (do checkBuiltinCall "bytes.__new__" ⟨[.type "bytes", .ref l], []⟩; again (.builtin "bytes.__new__" ⟨[.type "bytes", .ref l], []⟩)) _ _ s
  refine wpAny_bind (wpAny_of_eq (F.bm_newCall _) (wpAny_pure ⟨plainId_quiet F.bm_plain _, codeAny_builtin F.bm_entry ?_⟩))
  rw [Around.under_plainId F.bm_plain _]
  have hT : s.TypeIs (.ref l) "range" := ⟨_, hl, rfl⟩
  unfold Builtin.«bytes.__new__»
  refine wpAny_bind (wpAny_of_eq (a := true) rfl ?_)
  refine bm_if_false rfl ?_
  refine wpAny_bind (wpAny_of_eq F.bm_sub ?_)
  refine bm_if_false rfl ?_
  refine wpAny_bind (wpAny_of_eq (F.bm_bind _) ?_)
  refine wpAny_bind (wpAny_of_eq (a := ()) rfl ?_)
  refine wpAny_bind (wpAny_of_eq (a := ()) rfl ?_)
  refine bm_if_false rfl ?_
  refine wpAny_bind (wpAny_specialOf hT rg_no_bytes ?_)
  refine wpAny_bind (wpAny_bind ?_)
  show wpAny _ _ (load l >>= _) _ _ _
  refine wpAny_bind (wpAny_load hl ?_)
  refine wpAny_pure (wpAny_pure ?_)
  refine bm_if_false rfl ?_
  refine wpAny_bind (wpAny_specialOf hT rg_no_index ?_)
  refine bm_if_true rfl ?_
  first
    | show wpAny _ _ (Builtin.Bytes.buffer? "bytes.__new__" (.ref l) true >>= _) _ _ _
    | (refine wpAny_bind ?_; show wpAny _ _ (Builtin.Bytes.buffer? "bytes.__new__" (.ref l) true >>= _) _ _ _)
  refine wpAny_bind ?_
  unfold Builtin.Bytes.buffer?
  refine wpAny_bind (wpAny_specialOf hT rg_no_buffer ?_)
  refine wpAny_bind (wpAny_specialOf hT rg_no_buffer ?_)
  refine wpAny_pure ?_
  refine wpAny_bind (wpAny_tryCatch (wpAny_pyIter_range hl (small_one (by omega) (by omega) (by omega) (by omega)) ?_))
  rw [rsize]
  have hl₁ : IsRange (s.heap.push { cls := .type "range_iterator", data := .fields #[rawInt 0, rawInt n, rawInt 1] }) l 0 n 1 t u v := Heap.get?_push_of_some _ hl
  have hT₁ : ({ s with heap := s.heap.push { cls := .type "range_iterator", data := .fields #[rawInt 0, rawInt n, rawInt 1] } } : Shared).TypeIs (.ref l) "range" := ⟨_, hl₁, rfl⟩
  refine wpAny_bind (wpAny_holding ?_)
  unfold Builtin.Bytes.lengthHint
  refine wpAny_bind (wpAny_specialOf hT₁ F.slot_range_len.lookup ?_)
  dsimp only
  rw [split_rlen]
  dsimp only
  refine wpAny_bind (wpAny_isInstance hT₁ sub_rr ?_)
  refine bm_if_false rfl ?_
  refine bm_if_false (by decide +kernel) ?_
  refine bm_if_true rfl ?_
  refine wpAny_bind (wpAny_rule ?_)
  refine wpAny_bind (wpAny_attempt (call_len_range hl₁ (rsize n) (by omega) ?_))
  have htl : Builtin.Bytes.tooLong ((n : Int).toNat) = false := by simp [Builtin.Bytes.tooLong, sizeLine]; omega
  refine wpAny_bind (m := asInt? _) (wpAny_pure ?_)
  refine bm_if_false htl ?_
  refine wpAny_pure ?_
  refine wpAny_bind ?_
  unfold Builtin.Bytes.newBytearray
  refine wpAny_newObj_type ?_ (Nat.zero_le _)
  have hsz : (s.heap.push { cls := .type "range_iterator", data := .fields #[rawInt 0, rawInt n, rawInt 1] }).objs.size = s.heap.objs.size + 1 := Heap.size_push _ _
  have main := rg_loop (prog := prog) (w := w) (A := A) (R := wants Q E) (n := n) (I := s.heap.objs.size) (S := (s.heap.push { cls := .type "range_iterator", data := .fields #[rawInt 0, rawInt n, rawInt 1] }).objs.size) hh hz (by rw [hsz]; exact Nat.ne_of_lt (Nat.lt_succ_self _))
    n 0 { s with heap := (s.heap.push { cls := .type "range_iterator", data := .fields #[rawInt 0, rawInt n, rawInt 1] }).push { cls := .type "bytearray", data := .bytearray #[] }, toks := s.toks + 1 + 1 } rfl (Nat.zero_le _) (by simpa using Heap.get?_push_of_some _ (Heap.get?_push_size _ rfl)) (Heap.get?_push_size _ rfl)
    fun h' t k hk => hQ h' t k fun b o e => hk b o (Nat.ne_of_lt (Heap.lt_size e)) (by rw [hsz]; exact Nat.ne_of_lt (Nat.lt_succ_of_lt (Heap.lt_size e))) (Heap.get?_push_of_some _ (Heap.get?_push_of_some _ e))
  first
    | exact wpAny_pure ⟨plainId_quiet F.bm_plain_loop _, main⟩
    | exact wpAny_pure (wpAny_pure ⟨plainId_quiet F.bm_plain_loop _, main⟩)
end
section
variable {prog : Program} {w : World} {A : Around} {h₀ : Heap} {env : Env} {func e : Expr} {pos : Pos}
theorem callBytesR {l : Addr} {n : Nat} {t u v : Tok} (hh : A.handled = none) (hl : IsRange h₀ l 0 n 1 t u v) (hz : n ≤ 256) : Ev prog w A h₀ (call (.type "bytes") [.ref l]) (DT (.bts (List.range n))) := by
  intro r h tk Q E k q
  refine callType_codes (Q₁ := fun obj s₁ => s₁.TypeIs obj "bytes" ∧ Q obj s₁) F.bm_called (F.bm_typeCall _) F.entry_object_init
    (rg_new hh (k _ _ hl) hz fun h' t k' hk => ⟨PySem.W.typeIs_bytes _ _ _, q _ h' k' hk (.bts _ _ fun x hx => by have := List.mem_range.mp hx; omega)⟩) fun obj s₁ h₁ => ?_
  exact ⟨h₁.1, F.args_object_init_2 obj _, object_init_meets F.bm_called.init.lookup F.bm_called.made (by decide) prog w A.in1 _ s₁ ⟨h₁.1, rfl, h₁.2⟩⟩
theorem Ev.bytesR {n : Nat} (hh : A.handled = none) (g : Ev prog w A h₀ (eval func env) (VE (.type "bytes"))) (x : Ev prog w A h₀ (eval e env) (fun _ y h' => ∃ l t u v, y = .ref l ∧ IsRange h' l 0 n 1 t u v)) (hlen : n ≤ 256)
    (hs : starEach [e] env = [(false, eval e env)] := by rfl)
    (he : eval (.Call func [e] [] pos) env = (do callWith pos (← eval func env) [] (backTo pos (starEach [e] env)) (backToKw pos (keywordEach [] env))) := by rfl) : Ev prog w A h₀ (eval (.Call func [e] [] pos) env) (DT (.bts (List.range n))) :=
  Ev.call1 g (fun _ _ => keeps_type _) x (fun h a h' _ _ ⟨b, _, _, _, eb, hr⟩ => by subst eb; exact callBytesR hh hr hlen) Dn.dt hs he
end
end Mine

end
section
set_option maxRecDepth 100000
namespace Mine
open PySem PySem.W PySem.Calls PyProof.Rows
/-! ## dicts with keys by value -/
theorem size_lo {w : World} {h : Heap} (B : Bs w h) : (h.objs.size == sysModules) = false := beq_eq_false_iff_ne.mpr (Nat.ne_of_gt (modules_low B.lim))
section
variable {K : Type} [DecidableEq K]
theorem stored_new {kvs : List (K × Value)} {k : K} {v : Value} (h : k ∉ kvs.map (·.1)) : stored kvs k v = kvs ++ [(k, v)] := by
  unfold stored
  rw [if_neg]
  intro c
  obtain ⟨x, hx, e⟩ := List.any_eq_true.mp c
  exact h (List.mem_map.mpr ⟨x, hx, of_decide_eq_true e⟩)
theorem valueAt_mem (kvs : List (K × Value)) (k : K) : (valueAt kvs k).isSome = decide (k ∈ kvs.map (·.1)) := by
  rw [valueAt_isSome_eq_any, Bool.eq_iff_iff]
  simp
end
section
variable {prog : Program} {w : World} {A : Around} {g : Heap} {L : Addr} {h : Heap} {tk : Nat} {r : Rst} {m : Str → Option Value} {Φ : List (Addr × Obj)} {T : List (List Value × List Dt)} {env : Env} {E : Value → Shared → Prop} {h₀ : Heap} {K : Type} [DecidableEq K] {knd : KeyKind prog w K}
/-- a fresh dict of one pair -/
def D1 (knd : KeyKind prog w K) (k : K) (dv : Dt) : Heap → Value → Heap → Prop := fun h y h' => ∃ d o v, y = .ref d ∧ (d == sysModules) = false ∧ h.get? d = none ∧ h'.get? d = some o ∧ o.IsDictOf knd [(k, v)] ∧ DV h' v dv
theorem Ev.dict1 (B : Bs w h₀) {e₁ e₂ : Expr} {pos : Pos} {k : K} {d₁ d₂ : Dt} (x : Ev prog w A h₀ (eval e₁ env) (DT d₁)) (y : Ev prog w A h₀ (eval e₂ env) (DT d₂)) (hk : ∀ h v, DV h v d₁ → knd.is k v = true)
    (hshape : (evalEachOpt [some e₁] env).zip ((evalEach [e₂] env).map fun v => do let x ← v; standAt pos; Pure.pure x) = ([(eval e₁ env, do let x ← eval e₂ env; standAt pos; Pure.pure x)] : List (Sem Value × Sem Value)).map fun p => (some p.1, p.2) := by rfl) :
    Ev prog w A h₀ (eval (.Dict [some e₁] [e₂] pos) env) (D1 knd k d₂) := by
  intro r h tk Q E l q
  have kp : Le h (h.push { cls := .type "dict", data := .dict #[] }) := Le.push _ _
  refine wpAny_Dict_pairs (knd := knd) hshape (by simp) (by simp) ?_
  refine evalPairs_cons (x r _ tk _ E (l.trans kp) fun a h₁ t₁ k₁ f₁ => wpAny_bind (y r h₁ t₁ _ E (l.trans (kp.trans k₁)) fun b h₂ t₂ k₂ f₂ => wpAny_bind (wpAny_standAt (wpAny_pure (evalPairs_nil ?_)))))
  refine ⟨[(k, b)], ⟨hk _ _ f₁, rfl, trivial⟩, ?_, fun h' hd hs => ?_⟩
  · obtain ⟨o, es, ep, ho, r⟩ := Heap.DictOf.new (knd := knd) h
    exact ⟨o, es, ep, k₂ _ _ (k₁ _ _ ho), r⟩
  · obtain ⟨o, ho, hd'⟩ := Heap.dictOf_iff.mp hd
    have kk : Le h h' := fun a o e => (hs.2 a (Nat.ne_of_lt (Heap.lt_size e))).trans (k₂ _ _ (k₁ _ _ (kp _ _ e)))
    refine q _ h' _ kk ⟨_, o, b, rfl, size_lo (B.le l), fresh_size h, ho, by simpa [merged, stored] using hd', ?_⟩
    refine f₂.tk (TK.but hs.extBut fun o' xs n e c z => ?_)
    have := k₂ _ _ (k₁ _ _ (Heap.get?_push_size h (o := { cls := .type "dict", data := .dict #[] }) rfl))
    rw [this] at e; cases e; cases z
theorem notInD {d : Addr} {o : Obj} {kvs : List (K × Value)} {k : K} {key : Value} {b : Bool} (hb : b = true ↔ k ∈ kvs.map (·.1)) (ho : h₀.get? d = some o) (hd : o.IsDictOf knd kvs) (lo : (d == sysModules) = false) (hk : knd.is k key = true) :
    Ev prog w A h₀ (compareOp .NotIn key (.ref d)) (BT (!b)) := by
  intro r h tk Q E l q
  refine wpAny_notIn_of hk lo (Heap.dictOf_iff.mpr ⟨o, l _ _ ho, hd⟩).mapOf ?_
  have e : (valueAt kvs k).isSome = b := by rw [valueAt_mem, Bool.eq_iff_iff, hb]; simp
  rw [e]
  exact q _ h _ (Le.refl _) rfl
/-- d[k] = v, of pure parts -/
theorem setS {eo ei ev : Expr} {sp pos : Pos} {rest : List Stmt} {d : Addr} {o : Obj} {kvs : List (K × Value)} {k : K} {dk dv : Dt} {Q : Flow → Shared → Prop} (W : Ws g L h m Φ T) (n : Nat) (hn : Φ[n]? = some (d, o)) (hd : o.IsDictOf knd kvs) (hz : kvs.length ≤ 2 ^ 20)
    (hv : Ev prog w A h (eval ev env) (DT dv)) (ho : Ev prog w A h (eval eo env) (VE (.ref d))) (hi : Ev prog w A h (eval ei env) (DT dk)) (hk : ∀ h v, DV h v dk → knd.is k v = true)
    (q : ∀ h₃ tk₃ o' v, o'.IsDictOf knd (stored kvs k v) → DV h₃ v dv → Ws g L h₃ m (Φ.set n (d, o')) T → wpAny (model prog w) A (execs rest env) Q E (r.st h₃ tk₃))
    (hs : swapsWith ev (some (.Subscript eo ei sp)) pos.line env = Pure.pure false := by rfl) : wpAny (model prog w) A (execs (.Assign [.Subscript eo ei sp] ev pos :: rest) env) Q E (r.st h tk) := by
  refine wpAny_execs_cons (wpAny_Assign_Subscript (hv r h tk _ E (Le.refl _) fun v h₁ t₁ k₁ f₁ => ho r h₁ t₁ _ E k₁ fun y h₂ t₂ k₂ f₂ => hi r h₂ t₂ _ E (k₁.trans k₂) fun i h₃ t₃ k₃ f₃ => ?_) hs)
  subst f₂
  have W₃ := W.le (k₁.trans (k₂.trans k₃))
  refine wpAny_setItem_pairs (hsz := size_le_of (by simpa using hz)) (hk _ _ f₃) (Heap.dictOf_iff.mpr ⟨o, W₃.get n hn, hd⟩) fun h' hd' hs' => ?_
  obtain ⟨o', ho', hd''⟩ := Heap.dictOf_iff.mp hd'
  have nt : ∀ xs k, o.cls = .type "tuple" → o.data = .seq xs k → False := fun xs k c _ => by
    obtain ⟨es, ep, ⟨c', _⟩, _⟩ := hd
    rw [c'] at c; injection c with c; exact absurd c (by decide)
  refine q h' _ o' v hd'' ?_ (W₃.setAt hn hs' ho' nt)
  refine (DV.le (k₂.trans k₃) f₁).tk (TK.but hs'.extBut fun o₁ xs k e c z => ?_)
  rw [W₃.get n hn] at e
  cases e
  exact nt xs k c z
end
/-! ## keys of octets -/
def bk (l : List Nat) : List UInt8 := l.map Nat.toUInt8
theorem bk_is {prog : Program} {w : World} {h : Heap} {v : Value} {l : List Nat} (x : DV h v (.bts l)) : (bytesKind prog w).is (bk l) v = true := by
  cases x; simp [bytesKind, isBytes, bk, mkB]
theorem bk_inj : ∀ {a b : List Nat}, (∀ x ∈ a, x < 256) → (∀ x ∈ b, x < 256) → bk a = bk b → a = b
  | [], [], _, _, _ => rfl
  | [], _ :: _, _, _, e => by cases e
  | _ :: _, [], _, _, e => by cases e
  | x :: a, y :: b, ha, hb, e => by
    simp only [bk, List.map_cons, List.cons.injEq] at e
    have hx := ha x (.head _)
    have hy := hb y (.head _)
    have : x = y := by
      have := congrArg UInt8.toNat e.1
      simpa [Nat.mod_eq_of_lt hx, Nat.mod_eq_of_lt hy] using this
    rw [this, bk_inj (fun z hz => ha z (.tail _ hz)) (fun z hz => hb z (.tail _ hz)) e.2]
theorem bk_mem {l : List Nat} {f : List (List Nat)} (hl : ∀ x ∈ l, x < 256) (hf : ∀ o ∈ f, ∀ x ∈ o, x < 256) : bk l ∈ f.map bk ↔ l ∈ f := by
  constructor
  · intro h
    obtain ⟨o, ho, e⟩ := List.mem_map.mp h
    rwa [← bk_inj (hf o ho) hl e]
  · exact fun h => List.mem_map.mpr ⟨l, h, rfl⟩
end Mine

end
section
set_option maxRecDepth 100000
namespace Mine
open PySem PySem.W PySem.Calls PyProof.Rows
def madeIn (one : List Nat) : List (List Nat) → List (List Nat) → Option (List (List Nat))
  | [], f => some f
  | mk :: rest, f => (thenS one mk).bind fun a => if a ∈ f then madeIn one rest f else if f.length < 500 then madeIn one rest (f ++ [a]) else none
def madeGo (makers : List (List Nat)) : Nat → List (List Nat) → Nat → Option (List (List Nat))
  | 0, _, _ => none
  | n + 1, f, i => match f[i]? with
    | none => some f
    | some one => (madeIn one makers f).bind fun f' => madeGo makers n f' (i + 1)
def madeS (makers : List (List Nat)) : Option (List (List Nat)) := madeGo makers 100 [List.range 4] 0
def Good (f : List (List Nat)) : Prop := f.length ≤ 500 ∧ ∀ o ∈ f, o.length = 4 ∧ ∀ x ∈ o, x < 256
theorem then_len {a b c : List Nat} (h : thenS a b = some c) : c.length = a.length := by
  obtain ⟨rfl, _⟩ := thenS_eq h; simp
theorem then_lt {a b c : List Nat} (h : thenS a b = some c) (hb : ∀ x ∈ b, x < 256) : ∀ x ∈ c, x < 256 := by
  obtain ⟨rfl, hlt⟩ := thenS_eq h
  intro n hn
  obtain ⟨o, ho, rfl⟩ := List.mem_map.mp hn
  have h1 := hlt o ho
  have : b.getD o 0 = b[o] := by simp [List.getD, h1]
  rw [this]
  exact hb _ (List.getElem_mem h1)
abbrev btss (l : List (List Nat)) : List Dt := l.map Dt.bts
theorem retL {prog : Program} {w : World} {A : Around} {g : Heap} {L : Addr} {h : Heap} {tk : Nat} {r : Rst} {m : Str → Option Value} {Φ : List (Addr × Obj)} {T : List (List Value × List Dt)} {env : Env} {x : Str} {xp pos : Pos} {a : Addr} {vs : List Value} {k : Nat} {ds : List Dt} (W : Ws g L h m Φ T) (n : Nat) (hn : Φ[n]? = some (a, PySem.W.listOf vs.toArray k)) (hd : DVs h vs ds)
    (hx : NameIs env h x (.ref a)) (hdb : (x == ("__debug__" : Str)) = false := by decide) : wpAny (model prog w) A (execs [.Return (some (.Name x xp)) pos] env) (Ret r g (LT ds)) NoE (r.st h tk) := by
  refine wpAny_execs_cons (wpAny_Return_some (Ev.name hx hdb r h tk _ _ (Le.refl _) fun v h' tk' k' e => ?_))
  have W' := W.le k'
  exact ⟨v, h', tk', rfl, rfl, W'.keep, a, vs, e, (W.N _ (List.mem_of_getElem? hn)).2.2, ⟨_, W'.get n hn⟩, hd.le k'⟩
theorem made_spec {prog : Program} {w : World} {A : Around} {h₀ : Heap} (hh : A.handled = none) (hroom : A.depth + 1 < recursionLimit) (B : Bs w h₀) {makers out : List (List Nat)} (hs : madeS makers = some out) {aM : Addr} {vM : List Value} (hl : h₀.IsList aM vM.toArray) (hv : DVs h₀ vM (btss makers)) (hz : makers.length ≤ 100) (hlen : ∀ o ∈ makers, o.length ≤ 2 ^ 20) :
    Ev prog w A h₀ (call (.ref 47) [.ref aM]) (LT (btss out)) := by
  have hm256 : ∀ o ∈ makers, ∀ x ∈ o, x < 256 := by
    intro o ho
    obtain ⟨i, hi⟩ := List.mem_iff_getElem?.mp ho
    obtain ⟨v, _, hv'⟩ := hv.at (i := i) (d := .bts o) (by rw [List.getElem?_map, hi]; rfl)
    cases hv'; assumption
  refine Ev.fn (binds := [("makers", .ref aM)]) (by omega) B (B.1 47 _ rfl) rfl (codeRec_of B.1 rfl) rfl rfl rfl ?_ ?_
  · intro n x hx
    simp only [List.mem_cons, List.not_mem_nil, or_false] at hx
    subst hx
    exact .inl rfl
  · intro r h hl0 h₁ tk F C
    have k : Le h h₁ := F.keep
    have B1 := B.le (hl0.trans k)
    have W₀ := Ws.start F
    refine asg2 (φ := LT [.bts (List.range 4)]) (ψ := D1 (bytesKind prog w) (bk (List.range 4)) (.int 1)) hh W₀ rfl rfl rfl rfl ?_ (fun h₂ _ k₂ _ => ?_) ?_
    · exact Ev.list1 (Ev.bytesR hh (Ev.boot B1 rfl rfl (by decide) rfl rfl rfl rfl) (Ev.range1 (Ev.boot B1 rfl rfl (by decide) rfl rfl rfl rfl) Ev.cint) (by decide))
    · have B2 := B1.le k₂
      exact Ev.dict1 B2 (Ev.bytesR hh (Ev.boot B2 rfl rfl (by decide) rfl rfl rfl rfl) (Ev.range1 (Ev.boot B2 rfl rfl (by decide) rfl rfl rfl rfl) Ev.cint) (by decide)) Ev.cint (fun h v x => bk_is x)
    · intro y h₂ z h₃ k₂ f₂ k₃ f₃
      obtain ⟨aF, vF, nF, rfl, W₂⟩ := W₀.addL k₂ f₂
      obtain ⟨aK, oK, v1, rfl, loK, hKn, hK, hKd, -⟩ := f₃
      have W₃ := W₂.add k₃ hKn hK
      refine ⟨_, _, W₃, fun h₄ t₄ W₄ => ?_⟩
      refine wpAny_execs_cons ?_
      refine forList (l := aF) (n₀ := 100) (vs₀ := vF) (fun n i vs m Φ T => ∃ f kvs oK kF, madeGo makers n f i = some out ∧ Good f ∧ m "makers" = some (.ref aM) ∧ m "found" = some (.ref aF) ∧ m "known" = some (.ref aK) ∧
        Φ = [(aK, oK), (aF, PySem.W.listOf vs.toArray kF)] ∧ T = [(vs, btss f)] ∧ oK.IsDictOf (bytesKind prog w) kvs ∧ kvs.map (·.1) = f.map bk) hh W₄ ?_ ?_ ?_ ?_ ?_
      · exact Ev.name (.loc rfl rfl W₄.F.ns rfl)
      · refine ⟨[List.range 4], _, oK, nF, hs, ⟨by decide, ?_⟩, rfl, rfl, rfl, rfl, rfl, hKd, rfl⟩
        intro o ho; rw [List.mem_singleton] at ho; subst ho
        exact ⟨rfl, fun x hx => by have := List.mem_range.mp hx; omega⟩
      · rintro n i vs m Φ T H ⟨f, kvs, oK, kF, -, -, -, -, -, rfl, rfl, -⟩ W'
        exact W'.isL 1
      · rintro n i vs v m Φ T H tk I oI ⟨f, kvs, oK, kF, hgo, hg, hmM, hmF, hmK, rfl, rfl, hD, hkeys⟩ hv1 W'
        have hlen0 := (W'.dvs 0).length
        simp only [List.length_map] at hlen0
        have hi : i < f.length := by have := (List.getElem?_eq_some_iff.mp hv1).1; omega
        obtain ⟨one, hone⟩ : ∃ one, f[i]? = some one := ⟨_, List.getElem?_eq_getElem hi⟩
        have hvd : DV H v (.bts one) := by
          obtain ⟨d, hd, hvd⟩ := (W'.dvs 0).get hv1
          rw [List.getElem?_map, hone] at hd
          cases hd; exact hvd
        cases hvd with | bts _ tv ho256 =>
        obtain ⟨n, rfl⟩ : ∃ n', n = n' + 1 := by
          cases n with
          | zero => simp [madeGo] at hgo
          | succ n => exact ⟨n, rfl⟩
        simp only [madeGo, hone, Option.bind_eq_some_iff] at hgo
        obtain ⟨f₂, hin, hgo⟩ := hgo
        have hone4 : one.length = 4 := (hg.2 one (List.mem_of_getElem? hone)).1
        refine wpAny_assign_Name (stL W' rfl rfl rfl fun h₅ t₅ W₅ => ?_)
        refine wpAny_execs_cons ?_
        refine forList (l := aM) (n₀ := makers.length) (vs₀ := vM) (fun n₂ j vs₂ m Φ T => n₂ = makers.length - j ∧ j ≤ makers.length ∧ vs₂ = vM ∧ ∃ vs f kvs oK kF, madeIn one (makers.drop j) f = some f₂ ∧ Good f ∧ m "makers" = some (.ref aM) ∧ m "found" = some (.ref aF) ∧ m "known" = some (.ref aK) ∧ m "one" = some (.bytes (mkB one) tv) ∧
          Φ = [(I, oI), (aK, oK), (aF, PySem.W.listOf vs.toArray kF)] ∧ T = [(vs, btss f)] ∧ oK.IsDictOf (bytesKind prog w) kvs ∧ kvs.map (·.1) = f.map bk) hh W₅ ?_ ?_ ?_ ?_ ?_
        · exact Ev.name (.loc rfl rfl W₅.F.ns (upd_to hmM (by decide)))
        · exact ⟨rfl, Nat.zero_le _, rfl, vs, f, kvs, oK, kF, hin, hg, upd_to hmM (by decide), upd_to hmF (by decide), upd_to hmK (by decide), upd_eq, rfl, rfl, hD, hkeys⟩
        · rintro n₂ j vs₂ m Φ T H ⟨-, -, rfl, -⟩ W''
          exact hl.at fun o e => W''.keep _ o (hl0 _ o e)
        · clear hin hg hgo hD hkeys hlen0 hi hone hv1 W₅ W' hmM hmF hmK
          rintro n₂ j vs₂ v₂ m Φ T H tk I₂ oI₂ ⟨rfl, hj, rfl, vs, f, kvs, oK, kF, hin, hg, hmM, hmF, hmK, hmO, rfl, rfl, hD, hkeys⟩ hv2 W'
          have hj2 : j < makers.length := by have := (List.getElem?_eq_some_iff.mp hv2).1; have := hv.length; simp only [List.length_map] at this; omega
          obtain ⟨mk, hmk⟩ : ∃ mk, makers[j]? = some mk := ⟨_, List.getElem?_eq_getElem hj2⟩
          have hvd : DV h₀ v₂ (.bts mk) := by
            obtain ⟨d, hd, hvd⟩ := hv.get hv2
            rw [List.getElem?_map, hmk] at hd
            cases hd; exact hvd
          cases hvd with | bts _ tm hm256' =>
          have hdrop : makers.drop j = mk :: makers.drop (j + 1) := by
            rw [List.drop_eq_getElem_cons hj2]
            rw [List.getElem?_eq_getElem hj2] at hmk
            cases hmk; rfl
          rw [hdrop] at hin
          simp only [madeIn, Option.bind_eq_some_iff] at hin
          obtain ⟨af, haf, hin⟩ := hin
          have haf256 := then_lt haf hm256'
          have haf4 := (then_len haf).trans hone4
          refine wpAny_assign_Name (stL W' rfl rfl rfl fun h₅ t₅ W₅ => ?_)
          have B5 := B.le (hl0.trans W₅.keep)
          refine asg1 (φ := DT (.bts af)) W₅ rfl rfl rfl ?_ ?_
          · refine Ev.call2 (f := .ref 40) (Ev.glob B5 rfl rfl rfl rfl) (fun h' k' => keeps_fn ((B5.le k').1 40 _ rfl) rfl) (Ev.dname (.loc rfl rfl W₅.F.ns (upd_to hmO (by decide))) (.bts one tv ho256)) (Ev.dname (.loc rfl rfl W₅.F.ns upd_eq) (.bts mk tm hm256')) ?_ Dn.dt
            intro h a h₁ b h₂ k₀ k₁ k₂ f₁ f₂
            exact then_spec (by exact hh) (by exact hroom) (B5.le (k₀.trans (k₁.trans k₂))) haf (DV.le k₂ f₁) f₂ (by omega) (hlen _ (List.mem_of_getElem? hmk))
          · intro va h₆ k₆ f₆
            cases f₆ with | bts _ ta hta =>
            refine ⟨_, _, W₅.le k₆, fun h₇ t₇ W₇ => ?_⟩
            refine wpAny_execs_cons (wpAny_If ?_)
            refine Ev.isCmp (c := !decide (af ∈ f)) (ψ := VE (.ref aK)) (Ev.dname (.loc rfl rfl W₇.F.ns upd_eq) (.bts af ta hta)) (Ev.name (.loc rfl rfl W₇.F.ns ?_)) ?_ (by with_unfolding_all rfl) r h₇ t₇ _ _ (Le.refl _) ?_
            · exact upd_to (upd_to hmK (by decide)) (by decide)
            · intro h a h₈ b h₉ k₈ k₉ k₁₀ e₁ e₂
              subst e₂
              exact notInD (k := bk af) (by rw [hkeys, decide_eq_true_iff]; exact (bk_mem haf256 fun o ho => (hg.2 o ho).2).symm) ((W₇.le (k₈.trans (k₉.trans k₁₀))).get 2) hD loK (bk_is (DV.le k₁₀ e₁))
            · intro b h₈ t₈ k₈ e₈
              subst e₈
              have W₈ := W₇.le k₈
              by_cases hmem : af ∈ f
              · rw [if_pos hmem] at hin
                rw [decide_eq_true hmem]
                simp only [Bool.not_true, Bool.false_eq_true, if_false]
                refine wpAny_execs_nil (wpAny_execs_nil ?_)
                exact ⟨_, _, _, _, _, _, _, rfl, by omega, ⟨rfl, hj2, rfl, vs, f, kvs, oK, kF, hin, hg, upd_to (upd_to hmM (by decide)) (by decide), upd_to (upd_to hmF (by decide)) (by decide), upd_to (upd_to hmK (by decide)) (by decide), upd_to (upd_to hmO (by decide)) (by decide), rfl, rfl, hD, hkeys⟩, W₈⟩
              · rw [if_neg hmem] at hin
                rw [decide_eq_false hmem]
                simp only [Bool.not_false, if_true]
                have hlt : f.length < 500 := by
                  by_cases c : f.length < 500
                  · exact c
                  · rw [if_neg c] at hin; cases hin
                rw [if_pos hlt] at hin
                have hnk : bk af ∉ kvs.map (·.1) := by
                  rw [hkeys]
                  exact fun c => hmem ((bk_mem haf256 fun o ho => (hg.2 o ho).2).mp c)
                have hkl : kvs.length = f.length := by
                  have := congrArg List.length hkeys
                  simpa using this
                refine setS (n := 2) (k := bk af) (dk := .bts af) W₈ rfl hD (by omega) (dv := .int 1) Ev.cint (Ev.name (.loc rfl rfl W₈.F.ns (upd_to (upd_to hmK (by decide)) (by decide)))) (Ev.dname (.loc rfl rfl W₈.F.ns upd_eq) (.bts af ta hta)) (fun h v x => bk_is x) ?_
                intro h₉ t₉ oK' vK hD' _ W₉
                have hvl := (W₉.dvs 0).length
                simp only [List.length_map] at hvl
                refine appendS (n := 3) (k := kF) (φ := DT (.bts af)) W₉ rfl (by omega) (Ev.name (.loc rfl rfl W₉.F.ns (upd_to (upd_to hmF (by decide)) (by decide)))) (Ev.dname (.loc rfl rfl W₉.F.ns upd_eq) (.bts af ta hta)) ?_ Dn.dt
                intro v h₁₀ k₁₀ hva W₁₀
                refine ⟨[(vs ++ [v], btss (f ++ [af]))], ?_, fun h₁₁ t₁₁ k₁₁ W₁₁ => wpAny_execs_nil (wpAny_execs_nil ?_)⟩
                · refine ⟨W₁₀.F, W₁₀.N, W₁₀.nd, fun p hp => ?_⟩
                  rw [List.mem_singleton] at hp
                  subst hp
                  rw [btss, List.map_append]
                  exact (W₁₀.dvs 0).snoc hva
                · refine ⟨_, _, _, _, _, _, _, rfl, by omega, ⟨rfl, hj2, rfl, vs ++ [v], f ++ [af], stored kvs (bk af) vK, oK', k₁₁, hin, ⟨?_, ?_⟩, upd_to (upd_to hmM (by decide)) (by decide), upd_to (upd_to hmF (by decide)) (by decide), upd_to (upd_to hmK (by decide)) (by decide), upd_to (upd_to hmO (by decide)) (by decide), rfl, rfl, hD', ?_⟩, W₁₁⟩
                  · simp; omega
                  · intro o ho
                    rcases List.mem_append.mp ho with ho | ho
                    · exact hg.2 o ho
                    · rw [List.mem_singleton] at ho; subst ho; exact ⟨haf4, haf256⟩
                  · rw [stored_new hnk, List.map_append, hkeys, List.map_append]; rfl
        · rintro n₂ j vs₂ m Φ T H tk ⟨rfl, hj, rfl, vs, f, kvs, oK, kF, hin, hg, hmM, hmF, hmK, hmO, rfl, rfl, hD, hkeys⟩ hv2 W'
          have ej : j = makers.length := by
            have h1 := hv.length
            have h2 := List.getElem?_eq_none_iff.mp hv2
            simp only [List.length_map] at h1
            omega
          subst ej
          rw [List.drop_length] at hin
          simp only [madeIn, Option.some.injEq] at hin
          subst hin
          exact wpAny_execs_nil ⟨_, _, _, _, _, _, _, rfl, Nat.lt_succ_self _, ⟨f, kvs, oK, kF, hgo, hg, hmM, hmF, hmK, rfl, rfl, hD, hkeys⟩, W'⟩
      · rintro n i vs m Φ T H tk ⟨f, kvs, oK, kF, hgo, hg, hmM, hmF, hmK, rfl, rfl, hD, hkeys⟩ hv1 W'
        have ef : out = f := by
          have hfi : f[i]? = none := by
            have := (W'.dvs 0).length
            simp only [List.length_map] at this
            have h2 := List.getElem?_eq_none_iff.mp hv1
            exact List.getElem?_eq_none (by omega)
          cases n with
          | zero => simp [madeGo] at hgo
          | succ n => simp only [madeGo, hfi] at hgo; exact (Option.some.inj hgo).symm
        subst ef
        exact retL W' 1 rfl (W'.dvs 0) (.loc rfl rfl W'.F.ns hmF)
end Mine

end
section
set_option maxRecDepth 100000
namespace Mine
open PySem PySem.W PySem.Calls PyProof.Rows
/-! ## data compared -/
mutual
def toPy : Dt → PyData
  | .int i => .int i
  | .str s => .str s
  | .bts _ => .none
  | .tup l => .tuple (toPyL l)
def toPyL : List Dt → List PyData
  | [] => []
  | d :: l => toPy d :: toPyL l
end
mutual
def plainD : Dt → Bool
  | .int _ => true
  | .str _ => false
  | .bts _ => false
  | .tup l => plainL l
def plainL : List Dt → Bool
  | [] => true
  | d :: l => plainD d && plainL l
end
mutual
theorem DV.reads {h : Heap} : ∀ {v : Value} {d : Dt}, DV h v d → plainD d = true → Reads h v (toPy d) []
  | _, _, .int i t, _ => .int i t
  | _, _, .tup ha hd, p => by
    obtain ⟨o, ho, hc, n, hdat⟩ := ha
    exact .tuple ho hc hdat (DVs.reads hd (by simpa [plainD] using p))
theorem DVs.reads {h : Heap} : ∀ {vs : List Value} {ds : List Dt}, DVs h vs ds → plainL ds = true → ReadsAll h vs (toPyL ds) []
  | _, _, .nil, _ => .nil
  | _, _, .cons a b, p => by
    simp only [plainL, Bool.and_eq_true] at p
    exact .cons (DV.reads a p.1) (DVs.reads b p.2)
end
mutual
theorem eqv_iff : ∀ (a b : Dt), plainD a = true → plainD b = true → (PyData.eqv (toPy a) (toPy b) = true ↔ a = b)
  | .int i, .int j, _, _ => by simp [toPy, PyData.eqv]
  | .int i, .tup l, _, _ => by simp [toPy, PyData.eqv]
  | .tup l, .int i, _, _ => by simp [toPy, PyData.eqv]
  | .tup l, .tup m, p, q => by
    simp only [toPy, PyData.eqv, Dt.tup.injEq]
    exact eqvL_iff l m (by simpa [plainD] using p) (by simpa [plainD] using q)
  | .str _, _, p, _ => by simp [plainD] at p
  | .bts _, _, p, _ => by simp [plainD] at p
  | .int _, .str _, _, q => by simp [plainD] at q
  | .int _, .bts _, _, q => by simp [plainD] at q
  | .tup _, .str _, _, q => by simp [plainD] at q
  | .tup _, .bts _, _, q => by simp [plainD] at q
theorem eqvL_iff : ∀ (a b : List Dt), plainL a = true → plainL b = true → (PyData.eqvAll (toPyL a) (toPyL b) = true ↔ a = b)
  | [], [], _, _ => by simp [toPyL, PyData.eqvAll]
  | [], _ :: _, _, _ => by simp [toPyL, PyData.eqvAll]
  | _ :: _, [], _, _ => by simp [toPyL, PyData.eqvAll]
  | x :: a, y :: b, p, q => by
    simp only [plainL, Bool.and_eq_true] at p q
    simp only [toPyL, PyData.eqvAll, Bool.and_eq_true, List.cons.injEq]
    rw [eqv_iff x y p.1 q.1, eqvL_iff a b p.2 q.2]
end
mutual
theorem canLay_plain : ∀ (a : Dt), plainD a = true → (toPy a).canLay0 = true
  | .int _, _ => rfl
  | .tup l, p => by simp only [toPy, PyData.canLay0]; exact canLay_plainL l (by simpa [plainD] using p)
  | .str _, p => by simp [plainD] at p
  | .bts _, p => by simp [plainD] at p
theorem canLay_plainL : ∀ (a : List Dt), plainL a = true → PyData.canLayAll0 (toPyL a) = true
  | [], _ => rfl
  | x :: a, p => by
    simp only [plainL, Bool.and_eq_true] at p
    simp only [toPyL, PyData.canLayAll0, Bool.and_eq_true]
    exact ⟨canLay_plain x p.1, canLay_plainL a p.2⟩
end
theorem any_iff (d : Dt) (hd : plainD d = true) : ∀ (ds : List Dt), plainL ds = true → (((toPyL ds).any fun y => PyData.eqv y (toPy d)) = true ↔ d ∈ ds)
  | [], _ => by simp [toPyL]
  | x :: ds, p => by
    simp only [plainL, Bool.and_eq_true] at p
    simp only [toPyL, List.any_cons, Bool.or_eq_true, List.mem_cons]
    rw [eqv_iff x d p.1 hd, any_iff d hd ds p.2]
    exact or_congr ⟨Eq.symm, Eq.symm⟩ Iff.rfl
/-- numbers, and tuples of numbers -/
def shal : Dt → Bool
  | .int _ => true
  | .tup l => l.all fun d => match d with | .int _ => true | _ => false
  | _ => false
theorem plainL_all : ∀ (l : List Dt), (∀ d ∈ l, plainD d = true) → plainL l = true
  | [], _ => rfl
  | x :: l, p => by simp only [plainL, Bool.and_eq_true]; exact ⟨p x (.head _), plainL_all l fun d hd => p d (.tail _ hd)⟩
theorem shal_plain {d : Dt} (h : shal d = true) : plainD d = true := by
  cases d with
  | int i => rfl
  | tup l =>
    simp only [shal, List.all_eq_true] at h
    simp only [plainD]
    refine plainL_all l fun d hd => ?_
    have := h d hd
    cases d <;> simp_all [plainD]
  | str s => cases h
  | bts s => cases h
theorem depth_ints : ∀ (l : List Dt), (l.all fun d => match d with | .int _ => true | _ => false) = true → PyData.depthAll (toPyL l) = 0
  | [], _ => rfl
  | x :: l, p => by
    simp only [List.all_cons, Bool.and_eq_true] at p
    cases x <;> simp at p
    simp only [toPyL, PyData.depthAll, toPy, PyData.depth, depth_ints l (by simpa using p)]
    rfl
theorem depth_shal {d : Dt} (h : shal d = true) : (toPy d).depth ≤ 1 := by
  cases d with
  | int i => simp [toPy, PyData.depth]
  | tup l => simp only [toPy, PyData.depth, depth_ints l h]; omega
  | str s => cases h
  | bts s => cases h
section
variable {prog : Program} {w : World} {A : Around} {h₀ : Heap}
theorem notInL {l : Addr} {vs : List Value} {ds : List Dt} {v : Value} {d : Dt} {b : Bool} (hu : A.units + 64 < cLine) (hl : h₀.IsList l vs.toArray) (hds : DVs h₀ vs ds) (hd : DV h₀ v d) (ps : ∀ d ∈ ds, shal d = true) (pd : shal d = true) (hb : b = true ↔ d ∈ ds) :
    Ev prog w A h₀ (compareOp .NotIn v (.ref l)) (BT (!b)) := by
  intro r h tk Q E k q
  obtain ⟨o, ho, hc, n, hdat⟩ := hl
  have pl := plainL_all ds fun d hd => shal_plain (ps d hd)
  refine PySem.SeqAt.notIn_list_reads (reads_list_at (k _ _ ho) hc hdat (DVs.reads (hds.le k) pl)) (DV.reads (hd.le k) (shal_plain pd)) (canLay_plainL _ pl) (canLay_plain _ (shal_plain pd)) ?_ ?_
  · have := depth_shal pd; omega
  · have e : ((toPyL ds).any fun y => PyData.eqv y (toPy d)) = b := by rw [Bool.eq_iff_iff, any_iff d (shal_plain pd) ds pl, hb]
    rw [e]
    exact q _ h _ (Le.refl _) rfl
theorem neNil {l e : Addr} {vs : List Value} {ds : List Dt} (hu : A.units + 64 < cLine) (hl : h₀.IsList l vs.toArray) (he : h₀.IsList e #[]) (hds : DVs h₀ vs ds) (ps : ∀ d ∈ ds, shal d = true) :
    Ev prog w A h₀ (compareOp .NotEq (.ref l) (.ref e)) (BT (!ds.isEmpty)) := by
  intro r h tk Q E k q
  obtain ⟨o, ho, hc, n, hdat⟩ := hl
  obtain ⟨o', ho', hc', n', hdat'⟩ := he
  have pl := plainL_all ds fun d hd => shal_plain (ps d hd)
  refine PySem.SeqAt.compareNe_reads (reads_list_at (k _ _ ho) hc hdat (DVs.reads (hds.le k) pl)) (reads_list_at (k _ _ ho') hc' hdat' .nil) ?_ rfl ?_ ?_
  · simp only [PyData.canLay0]; exact canLay_plainL _ pl
  · simp only [PyData.depth, PyData.depthAll]; omega
  · have e : PyData.eqv (.list (toPyL ds)) (.list []) = ds.isEmpty := by
      cases ds <;> simp [toPyL, PyData.eqv, PyData.eqvAll]
    rw [e]
    exact q _ h _ (Le.refl _) rfl
end
end Mine

end
section
set_option maxRecDepth 100000
namespace Mine
open PySem PySem.W PySem.Calls PyProof.Rows
def ringWhile (order : List Nat) : Nat → List Nat → Nat → Option (List Nat)
  | 0, _, _ => none
  | n + 1, seen, here => if here ∈ seen then some seen else (order[here]?).bind fun nx => if seen.length < 100 then ringWhile order n (seen ++ [here]) nx else none
def ringsGo (order : List Nat) : List Nat → List Nat → Nat → Option Nat
  | [], _, f => some f
  | o :: rest, seen, f => if o ∈ seen then ringsGo order rest seen f else (ringWhile order 20 seen o).bind fun s => ringsGo order rest s (f + 1)
def ringsS (order : List Nat) : Option Nat := ringsGo order (List.range 4) [] 0
theorem nats_mem {n : Nat} {l : List Nat} : Dt.int (Int.ofNat n) ∈ nats l ↔ n ∈ l := by
  constructor
  · intro h
    obtain ⟨m, hm, e⟩ := List.mem_map.mp h
    have : m = n := by injection e with e; exact Int.ofNat.inj e
    rwa [← this]
  · exact fun h => List.mem_map.mpr ⟨n, h, rfl⟩
theorem nats_shal {l : List Nat} : ∀ d ∈ nats l, shal d = true := by
  intro d hd
  obtain ⟨m, _, rfl⟩ := List.mem_map.mp hd
  rfl
theorem ring_le {order : List Nat} : ∀ (n : Nat) (seen : List Nat) (here : Nat) (s : List Nat), ringWhile order n seen here = some s → seen.length ≤ 100 → s.length ≤ 100 := by
  intro n
  induction n with
  | zero => intro seen here s h; simp [ringWhile] at h
  | succ n ih =>
    intro seen here s h hl
    simp only [ringWhile] at h
    split at h
    · cases h; exact hl
    · simp only [Option.bind_eq_some_iff] at h
      obtain ⟨nx, _, h⟩ := h
      split at h
      · exact ih _ _ _ h (by simp; omega)
      · cases h
theorem range4_drop {i : Nat} (h : i < 4) : (List.range 4).drop i = i :: (List.range 4).drop (i + 1) := by
  match i, h with
  | 0, _ => rfl
  | 1, _ => rfl
  | 2, _ => rfl
  | 3, _ => rfl
theorem rings_spec {prog : Program} {w : World} {A : Around} {h₀ : Heap} (hh : A.handled = none) (hroom : A.depth < recursionLimit) (hu : A.units + 100 < cLine) (B : Bs w h₀) {order : List Nat} {out : Nat} (hs : ringsS order = some out) {u : Value} (hv : DV h₀ u (.bts order)) (hlen : order.length ≤ 2 ^ 20) :
    Ev prog w A h₀ (call (.ref 66) [u]) (DT (.int out)) := by
  cases hv with | bts _ to ho256 =>
  refine Ev.fn (binds := [("order", .bytes (mkB order) to)]) hroom B (B.1 66 _ rfl) rfl (codeRec_of B.1 rfl) rfl rfl rfl ?_ ?_
  · intro n x hx
    simp only [List.mem_cons, List.not_mem_nil, or_false] at hx
    subst hx
    exact .inl rfl
  · intro r h hl0 h₁ tk F C
    have k : Le h h₁ := F.keep
    have B1 := B.le (hl0.trans k)
    have W₀ := Ws.start F
    refine asg2 (φ := LT []) (ψ := DT (.int 0)) hh W₀ rfl rfl rfl rfl Ev.list0 (fun h₂ _ k₂ _ => Ev.cint) ?_
    intro y h₂ z h₃ k₂ f₂ k₃ f₃
    cases f₃ with | int _ t0 =>
    obtain ⟨aS, vS, nS, rfl, W₂⟩ := W₀.addL k₂ f₂
    refine ⟨_, _, W₂.le k₃, fun h₄ t₄ W₄ => ?_⟩
    refine wpAny_execs_cons ?_
    refine forRange (a := 0) (b := (4 : Nat)) (c := 1) (n₀ := 4) (fun i m Φ T => ∃ seen f vs kS t, ringsGo order ((List.range 4).drop i) seen f = some out ∧ seen.length ≤ 100 ∧ m "order" = some (.bytes (mkB order) to) ∧ m "seen" = some (.ref aS) ∧ m "found" = some (.int (Int.ofNat f) t) ∧
        Φ = [(aS, PySem.W.listOf vs.toArray kS)] ∧ T = [(vs, nats seen)]) hh W₄ (Ev.range1 (n := 4) (Ev.boot (B1.le (W₂.le k₃ |> fun _ => k₂.trans k₃ |>.trans (Le.refl _))|> fun x => B.le (hl0.trans W₄.keep)) rfl rfl (by decide) rfl rfl rfl rfl) Ev.cint) (fun _ _ _ x => x) (small_one (by omega) (by omega) (by omega) (by omega)) (rsize 4) ?_ ?_ ?_
    · exact ⟨[], 0, vS, nS, t0, hs, by decide, rfl, rfl, rfl, rfl, rfl⟩
    · rintro i t m Φ T H tk I oI ⟨seen, f, vs, kS, tf, hgo, hsl, hmO, hmS, hmF, rfl, rfl⟩ hi W'
      rw [range4_drop hi] at hgo
      have e0 : (0 : Int) + (i : Int) * 1 = Int.ofNat i := by simp
      rw [e0]
      refine wpAny_assign_Name (stL W' rfl rfl rfl fun h₅ t₅ W₅ => ?_)
      simp only [ringsGo] at hgo
      refine wpAny_execs_cons (wpAny_If ?_)
      refine Ev.isCmp (c := !decide (i ∈ seen)) (φ := DT (.int (Int.ofNat i))) (ψ := VE (.ref aS)) (Ev.dname (.loc rfl rfl W₅.F.ns upd_eq) (.int _ t)) (Ev.name (.loc rfl rfl W₅.F.ns (upd_to hmS (by decide)))) ?_ (by with_unfolding_all rfl) r h₅ t₅ _ _ (Le.refl _) ?_
      · intro h a h₈ b h₉ k₈ k₉ k₁₀ e₁ e₂
        subst e₂
        have W₉ := W₅.le (k₈.trans (k₉.trans k₁₀))
        exact notInL (d := .int (Int.ofNat i)) (by show A.units + 3 + 64 < cLine; omega) (W₉.isL 1) (W₉.dvs 0) (DV.le k₁₀ e₁) nats_shal rfl (by rw [decide_eq_true_iff]; exact nats_mem.symm)
      · intro b h₈ t₈ k₈ e₈
        subst e₈
        have W₈ := W₅.le k₈
        by_cases hmem : i ∈ seen
        · rw [if_pos hmem] at hgo
          rw [decide_eq_true hmem]
          simp only [Bool.not_true, Bool.false_eq_true, if_false]
          refine wpAny_execs_nil (wpAny_execs_nil ?_)
          exact ⟨_, _, _, _, _, rfl, ⟨seen, f, vs, kS, tf, hgo, hsl, upd_to hmO (by decide), upd_to hmS (by decide), upd_to hmF (by decide), rfl, rfl⟩, W₈⟩
        · rw [if_neg hmem] at hgo
          rw [decide_eq_false hmem]
          simp only [Bool.not_false, if_true]
          simp only [Option.bind_eq_some_iff] at hgo
          obtain ⟨s', hw, hgo⟩ := hgo
          refine asg2 (φ := DT (.int (Int.ofNat f + 1))) (ψ := DT (.int (Int.ofNat i))) hh W₈ rfl rfl rfl rfl ?_ ?_ ?_
          · exact Ev.binI (Ev.dname (.loc rfl rfl W₈.F.ns (upd_to hmF (by decide))) (.int _ tf)) Ev.cint (BinI.add _ _)
          · intro h₉ a k₉ _
            exact Ev.dname (.loc rfl rfl (W₈.le k₉).F.ns upd_eq) (.int _ t)
          · intro va h₉ vb h₁₀ k₉ f₉ k₁₀ f₁₀
            cases f₉ with | int _ t1 =>
            cases f₁₀ with | int _ t2 =>
            refine ⟨_, _, W₈.le (k₉.trans k₁₀), fun h₁₁ t₁₁ W₁₁ => ?_⟩
            refine wpAny_execs_cons ?_
            refine whileS (n₀ := 20) (fun n m Φ T => ∃ seen here vs kS t, ringWhile order n seen here = some s' ∧ seen.length ≤ 100 ∧ m "order" = some (.bytes (mkB order) to) ∧ m "seen" = some (.ref aS) ∧ m "found" = some (.int (Int.ofNat f + 1) t1) ∧ m "here" = some (.int (Int.ofNat here) t) ∧
              Φ = [(I, oI), (aS, PySem.W.listOf vs.toArray kS)] ∧ T = [(vs, nats seen)]) W₁₁ ?_ ?_
            · exact ⟨seen, i, vs, kS, t2, hw, hsl, upd_to (upd_to (upd_to hmO (by decide)) (by decide)) (by decide), upd_to (upd_to (upd_to hmS (by decide)) (by decide)) (by decide), upd_eq, upd_to upd_eq (by decide), rfl, rfl⟩
            · clear hmO hmS hmF hmem hw hsl W₁₁ W₈ W₅ W'
              rintro n m Φ T H ⟨seen, here, vs, kS, th, hw, hsl, hmO, hmS, hmF, hmH, rfl, rfl⟩ W'
              cases n with
              | zero => simp [ringWhile] at hw
              | succ n =>
              simp only [ringWhile] at hw
              refine ⟨!decide (here ∈ seen), ?_, ?_, ?_⟩
              · refine Ev.isCmp (φ := DT (.int (Int.ofNat here))) (ψ := VE (.ref aS)) (Ev.dname (.loc rfl rfl W'.F.ns hmH) (.int _ th)) (Ev.name (.loc rfl rfl W'.F.ns hmS)) ?_ (by with_unfolding_all rfl)
                intro h a h₈ b h₉ k₈ k₉ k₁₀ e₁ e₂
                subst e₂
                have W₉ := W'.le (k₈.trans (k₉.trans k₁₀))
                exact notInL (d := .int (Int.ofNat here)) (by show A.units + 3 + 64 < cLine; omega) (W₉.isL 1) (W₉.dvs 0) (DV.le k₁₀ e₁) nats_shal rfl (by rw [decide_eq_true_iff]; exact nats_mem.symm)
              · intro hb H' tk' _ W₂
                have hmem : here ∈ seen := by simpa using hb
                rw [if_pos hmem] at hw
                cases hw
                refine wpAny_execs_nil (wpAny_execs_nil ?_)
                refine ⟨_, _, _, _, _, rfl, ⟨s', f + 1, vs, kS, t1, hgo, hsl, hmO, hmS, hmF, rfl, rfl⟩, W₂⟩
              · intro hb H' tk' _ W₂
                have hmem : here ∉ seen := by simpa using hb
                rw [if_neg hmem] at hw
                simp only [Option.bind_eq_some_iff] at hw
                obtain ⟨nx, hnx, hw⟩ := hw
                have hlt : seen.length < 100 := by
                  by_cases c : seen.length < 100
                  · exact c
                  · rw [if_neg c] at hw; cases hw
                rw [if_pos hlt] at hw
                have hvl := (W₂.dvs 0).length
                simp only [List.length_map] at hvl
                refine appendS (n := 1) (k := kS) (φ := DT (.int (Int.ofNat here))) W₂ rfl (by omega) (Ev.name (.loc rfl rfl W₂.F.ns hmS)) (Ev.dname (.loc rfl rfl W₂.F.ns hmH) (.int _ th)) ?_ Dn.dt
                intro v h₁₀ k₁₀ hva W₁₀
                refine ⟨[(vs ++ [v], nats (seen ++ [here]))], ?_, fun h₁₁ t₁₁ k₁₁ W₁₁ => ?_⟩
                · refine ⟨W₁₀.F, W₁₀.N, W₁₀.nd, fun p hp => ?_⟩
                  rw [List.mem_singleton] at hp
                  subst hp
                  rw [nats, List.map_append]
                  exact (W₁₀.dvs 0).snoc hva
                · refine asg1 (φ := DT (.int (Int.ofNat nx))) W₁₁ rfl rfl rfl ?_ ?_
                  · exact Ev.itemB (l := order) (Ev.dname (.loc rfl rfl W₁₁.F.ns hmO) (.bts _ to ho256)) (Ev.dname (.loc rfl rfl W₁₁.F.ns hmH) (.int _ th)) (by simp) (by simpa using hnx) hlen
                  · intro v' h₁₂ k₁₂ f₁₂
                    cases f₁₂ with | int _ tn =>
                    refine ⟨_, _, W₁₁.le k₁₂, fun h₁₃ t₁₃ W₁₃ => wpAny_execs_nil ?_⟩
                    exact ⟨_, _, _, _, _, _, rfl, Nat.lt_succ_self _, ⟨seen ++ [here], nx, vs ++ [v], k₁₁, tn, hw, by simp; omega, upd_to hmO (by decide), upd_to hmS (by decide), upd_to hmF (by decide), upd_eq, rfl, rfl⟩, W₁₃⟩
    · rintro m Φ T H tk ⟨seen, f, vs, kS, tf, hgo, hsl, hmO, hmS, hmF, rfl, rfl⟩ W'
      have e : out = f := by
        have : (List.range 4).drop 4 = [] := rfl
        rw [this] at hgo
        simp only [ringsGo, Option.some.injEq] at hgo
        exact hgo.symm
      subst e
      exact retE W'.keep (Ev.dname (.loc rfl rfl W'.F.ns hmF) (.int _ tf)) Dn.dt
end Mine

end
section
set_option maxRecDepth 100000
namespace Mine
open PySem PySem.W PySem.Calls PyProof.Rows
section
variable {prog : Program} {w : World} {A : Around} {g : Heap} {L : Addr} {h : Heap} {tk : Nat} {r : Rst} {m : Str → Option Value} {Φ : List (Addr × Obj)} {T : List (List Value × List Dt)} {env : Env} {E : Value → Shared → Prop}
/-- a cell that the call made -/
theorem Ws.cell (W : Ws g L h m Φ T) {c : Addr} {v : Option Value} (hc : h.IsCell c v) (hL : L ≠ c) (hg : g.get? c = none) (hf : c ∉ Φ.map (·.1)) : ∃ o, o.data = .cell v ∧ Ws g L h m ((c, o) :: Φ) T := by
  obtain ⟨o, ho, hd⟩ := hc
  exact ⟨o, hd, W.F, fun p hp => by
    rcases List.mem_cons.mp hp with rfl | hp
    · exact ⟨ho, Ne.symm hL, hg⟩
    · exact W.N p hp, List.nodup_cons.mpr ⟨hf, W.nd⟩, W.T⟩
theorem get_none {h : Heap} {a : Addr} (k : h.objs.size ≤ a) : h.get? a = none := by
  rw [Heap.get?, Array.getElem?_eq_none k]
theorem asg1C {x : Str} {xp pos : Pos} {e : Expr} {rest : List Stmt} {φ : Heap → Value → Heap → Prop} {c : Addr} {Q : Flow → Shared → Prop} (_W : Ws g L h m Φ T) (hl : env.kindOf x = some .cell) (hk : env.scope.kind = .function) (hc : env.cells.lookup x = some c)
    (y : Ev prog w A h (eval e env) φ)
    (hW : ∀ v h₁, Le h h₁ → φ h v h₁ → ∃ Φ' T' n o v₀, Φ'[n]? = some (c, o) ∧ o.data = .cell v₀ ∧ Ws g L h₁ m Φ' T' ∧ ∀ h₂ tk₂ o', o'.data = .cell (some v) → Ws g L h₂ m (Φ'.set n (c, o')) T' → wpAny (model prog w) A (execs rest env) Q E (r.st h₂ tk₂))
    (hs : swapsWith e (some (.Name x xp)) pos.line env = pure false := by rfl) : wpAny (model prog w) A (execs (.Assign [.Name x xp] e pos :: rest) env) Q E (r.st h tk) := by
  refine wpAny_execs_cons (wpAny_Assign_Name (y r h tk _ _ (Le.refl _) fun v h₁ t₁ k₁ f₁ => ?_) hs)
  obtain ⟨Φ', T', n, o, v₀, e, hd, W', q⟩ := hW v h₁ k₁ f₁
  exact stC W' n e hd hl hk hc fun h₂ t₂ o' ho' W₂ => q h₂ t₂ o' ho' W₂
theorem Ws.isCell (W : Ws g L h m Φ T) (n : Nat) {c : Addr} {o : Obj} {v : Option Value} (hd : o.data = .cell v) (e : Φ[n]? = some (c, o) := by rfl) : h.IsCell c v := ⟨o, W.get n e, hd⟩
end
end Mine

end
section
set_option maxRecDepth 100000
namespace Mine
open PySem PySem.W PySem.Calls PyProof.Rows
instance : Inhabited Dt := ⟨.int 0⟩
mutual
def dtDec : (a b : Dt) → Decidable (a = b)
  | .int i, .int j => if h : i = j then Decidable.isTrue (by rw [h]) else Decidable.isFalse (by intro e; injection e with e; exact h e)
  | .str i, .str j => if h : i = j then Decidable.isTrue (by rw [h]) else Decidable.isFalse (by intro e; injection e with e; exact h e)
  | .bts i, .bts j => if h : i = j then Decidable.isTrue (by rw [h]) else Decidable.isFalse (by intro e; injection e with e; exact h e)
  | .tup i, .tup j => match dtDecL i j with
    | Decidable.isTrue h => Decidable.isTrue (by rw [h])
    | Decidable.isFalse h => Decidable.isFalse (by intro e; injection e with e; exact h e)
  | .int _, .str _ => Decidable.isFalse nofun
  | .int _, .bts _ => Decidable.isFalse nofun
  | .int _, .tup _ => Decidable.isFalse nofun
  | .str _, .int _ => Decidable.isFalse nofun
  | .str _, .bts _ => Decidable.isFalse nofun
  | .str _, .tup _ => Decidable.isFalse nofun
  | .bts _, .int _ => Decidable.isFalse nofun
  | .bts _, .str _ => Decidable.isFalse nofun
  | .bts _, .tup _ => Decidable.isFalse nofun
  | .tup _, .int _ => Decidable.isFalse nofun
  | .tup _, .str _ => Decidable.isFalse nofun
  | .tup _, .bts _ => Decidable.isFalse nofun
def dtDecL : (a b : List Dt) → Decidable (a = b)
  | [], [] => Decidable.isTrue rfl
  | [], _ :: _ => Decidable.isFalse nofun
  | _ :: _, [] => Decidable.isFalse nofun
  | x :: a, y :: b => match dtDec x y, dtDecL a b with
    | Decidable.isTrue h, Decidable.isTrue k => Decidable.isTrue (by rw [h, k])
    | Decidable.isFalse h, _ => Decidable.isFalse (by intro e; injection e with e _; exact h e)
    | _, Decidable.isFalse k => Decidable.isFalse (by intro e; injection e with _ e; exact k e)
end
instance : DecidableEq Dt := dtDec
def lotsGo (lead : Dt → List Dt) : Nat → List Dt → Nat → Option Nat
  | 0, _, _ => none
  | _ + 1, [], f => some f
  | n + 1, x :: l, f => lotsGo lead n ((x :: l).filter fun d => !decide (d ∈ lead x)) (f + 1)
theorem lots_spec {prog : Program} {w : World} {A : Around} {h₀ : Heap} (hh : A.handled = none) (hroom : A.depth < recursionLimit) (hu : A.units + 100 < cLine) (B : Bs w h₀) {lead : Dt → List Dt} {N : Nat} {ds : List Dt} {out : Nat} (hs : lotsGo lead N ds 0 = some out) {u lv : Value}
    (hlist : ∀ env h, Le h₀ h → Ev prog w (A.deeper env) h (call (.type "list") [u]) (LT ds))
    (hkeep : ∀ h, Le h₀ h → ∃ k, (k = Keeper.frame ∨ k = Keeper.machine ∨ k = Keeper.boundFrame) ∧ Looks (model prog w) h (keeperOf lv) k)
    (hlead : ∀ env h d v, Le h₀ h → d ∈ ds → DV h v d → Ev prog w (A.deeper env) h (call lv [v]) (LT (lead d)))
    (hds : ∀ d ∈ ds, shal d = true) (hld : ∀ d ∈ ds, ∀ e ∈ lead d, shal e = true) (hz : ds.length ≤ 2 ^ 20) :
    Ev prog w A h₀ (call (.ref 59) [u, lv]) (DT (.int out)) := by
  refine Ev.fn (binds := [("things", u), ("leads", lv)]) hroom B (B.1 59 _ rfl) rfl (codeRec_of B.1 rfl) rfl rfl rfl ?_ ?_
  · intro n x hx
    simp only [List.mem_cons, List.not_mem_nil, or_false] at hx
    rcases hx with rfl | rfl
    · exact .inl rfl
    · exact .inl rfl
  · intro r h hl0 h₁ tk F C
    have k : Le h h₁ := F.keep
    have B1 := B.le (hl0.trans k)
    have W₀ := Ws.start F
    obtain ⟨c, hc⟩ : ∃ c, c = h.objs.size + 1 := ⟨_, rfl⟩
    obtain ⟨C1, C2⟩ := C "lot" c (by subst hc; rfl)
    obtain ⟨oc, hoc, W₀⟩ := W₀.cell C1 (Nat.ne_of_lt C2) (get_none (Nat.le_of_lt C2)) (by simp)
    refine asg2 (φ := LT ds) (ψ := DT (.int 0)) hh W₀ rfl rfl rfl rfl ?_ (fun h₂ _ k₂ _ => Ev.cint) ?_
    · exact Ev.call1 (f := .type "list") (φ := VE u) (Ev.boot B1 rfl rfl (by decide) rfl rfl rfl rfl) (fun _ _ => keeps_type _) (Ev.name (.loc rfl rfl W₀.F.ns rfl)) (fun h' a h₂ k₁ k₂ e => by subst e; exact (hlist _ _ (hl0.trans (k.trans (k₁.trans k₂)))).mono fun h3 b h4 l1 _ f => Dn.lt (k₂.trans l1) f) Dn.lt
    · intro y h₂ z h₃ k₂ f₂ k₃ f₃
      cases f₃ with | int _ t0 =>
      obtain ⟨aS, vS, nS, rfl, W₂⟩ := W₀.addL k₂ f₂
      refine ⟨_, _, W₂.le k₃, fun h₄ t₄ W₄ => ?_⟩
      refine wpAny_execs_cons ?_
      refine whileS (n₀ := N) (fun n m Φ T => ∃ left f aL vl kl tf oc v0, lotsGo lead n left f = some out ∧ (∀ d ∈ left, d ∈ ds) ∧ left.length ≤ ds.length ∧ m "leads" = some lv ∧ m "left" = some (.ref aL) ∧ m "found" = some (.int (Int.ofNat f) tf) ∧
        Φ = [(aL, PySem.W.listOf vl.toArray kl), (c, oc)] ∧ oc.data = .cell v0 ∧ T = [(vl, left)]) W₄ ?_ ?_
      · exact ⟨ds, 0, aS, vS, nS, t0, oc, _, hs, fun d hd => hd, Nat.le_refl _, rfl, rfl, rfl, rfl, hoc, rfl⟩
      · clear hs W₄ W₂ W₀ hoc C1 f₂
        rintro n m Φ T H ⟨left, f, aL, vl, kl, tf, oc, v0, hgo, hsub, hlen, hmD, hmL, hmF, rfl, hoc, rfl⟩ W'
        refine ⟨!left.isEmpty, ?_, ?_, ?_⟩
        · refine Ev.isCmp (φ := VE (.ref aL)) (ψ := LT []) (Ev.name (.loc rfl rfl W'.F.ns hmL)) Ev.list0 ?_ (by with_unfolding_all rfl)
          intro h a h₈ b h₉ k₈ k₉ k₁₀ e₁ ⟨b', vb, e₂, _, hb, hbd⟩
          subst e₁ e₂
          cases hbd
          have W₉ := W'.le (k₈.trans (k₉.trans k₁₀))
          exact neNil (by show A.units + 3 + 64 < cLine; omega) (W₉.isL 0) hb.isList (W₉.dvs 0) (fun d hd => hds d (hsub d hd))
        · intro hb H' tk' _ W₂
          cases n with
          | zero => simp [lotsGo] at hgo
          | succ n =>
          cases left with
          | cons x l => simp at hb
          | nil =>
          simp only [lotsGo, Option.some.injEq] at hgo
          subst hgo
          exact retE W₂.keep (Ev.dname (.loc rfl rfl W₂.F.ns hmF) (.int _ tf)) Dn.dt
        · intro hb H' tk' _ W₂
          cases n with
          | zero => simp [lotsGo] at hgo
          | succ n =>
          cases left with
          | nil => simp at hb
          | cons x l =>
          simp only [lotsGo] at hgo
          have hx := hsub x (.head _)
          refine asg1C (c := c) (φ := LT (lead x)) W₂ rfl rfl (by subst hc; rfl) ?_ ?_
          · refine Ev.call1 (f := lv) (φ := DT x) (Ev.name (.loc rfl rfl W₂.F.ns hmD)) (fun h' k' => hkeep h' (hl0.trans (W₂.keep.trans k'))) ?_ ?_ Dn.lt
            · refine Ev.itemL (l := aL) (vs := vl) (ds := x :: l) (i := 0) (Ev.name (.loc rfl rfl W₂.F.ns hmL)) (W₂.isL 0) (W₂.dvs 0) Ev.cint (by decide) (by decide) rfl
            · intro h' a h₂ k₁ k₂ e
              exact (hlead _ _ x a (hl0.trans (W₂.keep.trans (k₁.trans k₂))) hx e).mono fun h3 b h4 l1 _ f => Dn.lt (k₂.trans l1) f
          · intro v h₃ k₃ f₃
            obtain ⟨aX, vX, nX, rfl, W₃⟩ := W₂.addL k₃ f₃
            refine ⟨_, _, 2, oc, v0, rfl, hoc, W₃, fun h₄ t₄ oc' hoc' W₄ => ?_⟩
            refine asg2 (φ := LT ((x :: l).filter fun d => !decide (d ∈ lead x))) (ψ := DT (.int (Int.ofNat f + 1))) hh W₄ rfl rfl rfl rfl ?_ ?_ ?_
            · refine Ev.compE (ds := x :: l) (fun d => !decide (d ∈ lead x)) (fun d => d) (by simp) rfl (by decide) rfl (by decide) rfl (by have := hlen; omega) (Sr.list hh (Ev.name (.loc rfl rfl W₄.F.ns hmL)) (W₄.isL 1) (W₄.dvs 1)) ?_ ?_
              · intro d hd C v h' m k' hv' hn hm
                refine tests_one ?_
                refine Ev.isCmp (φ := DT d) (ψ := VE (.ref aX)) (Ev.dname (.loc rfl rfl hn hm) hv') (Ev.name (.cell rfl rfl (c := c) (by subst hc; rfl) ((W₄.le k').isCell 2 hoc'))) ?_ (by with_unfolding_all rfl)
                intro h a h₈ b h₉ k₈ k₉ k₁₀ e₁ e₂
                subst e₂
                have W₉ := W₄.le (k'.trans (k₈.trans (k₉.trans k₁₀)))
                exact notInL (by show A.units + 3 + 64 < cLine; omega) (W₉.isL 0) (W₉.dvs 0) (DV.le k₁₀ e₁) (hld x hx) (hds d (hsub d hd)) (by rw [decide_eq_true_iff])
              · intro d hd _ C v h' m k' hv' hn hm
                exact Ev.dname (.loc rfl rfl hn hm) hv'
            · intro h₅ _ k₅ _
              exact Ev.binI (Ev.dname (.loc rfl rfl (W₄.le k₅).F.ns hmF) (.int _ tf)) Ev.cint (BinI.add _ _)
            · intro va h₅ vb h₆ k₅ f₅ k₆ f₆
              cases f₆ with | int _ t1 =>
              obtain ⟨aY, vY, nY, rfl, W₅⟩ := W₄.addL k₅ f₅
              have W₆ := (W₅.le k₆).sub (Φ' := [(aY, PySem.W.listOf vY.toArray nY), (c, oc')]) (T' := [(vY, (x :: l).filter fun d => !decide (d ∈ lead x))]) ?_ (fun p hp => ?_)
              · refine ⟨_, _, W₆, fun h₇ t₇ W₇ => wpAny_execs_nil ?_⟩
                refine ⟨_, _, _, _, _, _, rfl, Nat.lt_succ_self _, ⟨_, f + 1, aY, vY, nY, t1, oc', _, hgo, fun d hd => hsub d (List.mem_filter.mp hd).1, Nat.le_trans (List.length_filter_le _ _) hlen, upd_to (upd_to hmD (by decide)) (by decide), upd_eq, upd_to upd_eq (by decide), rfl, hoc', rfl⟩, W₇⟩
              · exact .cons_cons _ (.cons _ (.cons _ (.cons_cons _ .slnil)))
              · rw [List.mem_singleton] at hp
                subst hp
                exact .head _
end Mine

end
section
set_option maxRecDepth 100000
namespace Mine
open PySem PySem.W PySem.Calls PyProof.Rows
/-! ## bytearray -/
theorem ba_mro : mroOf (.type "bytearray") = Pure.pure [.type "bytearray", .type "object"] := by rw [mroOf_type]; kernel_rfl
theorem ba_lookup_new : typeLookup (.type "bytearray") "__new__" = Pure.pure (some (.builtin "bytearray.__new__")) := by rw [typeLookup_type, builtinLookup_eq_fast]; kernel_rfl
theorem ba_sub : isSubtype (.type "bytearray") (.type "bytearray") = Pure.pure true := by rw [isSubtype_type]; kernel_rfl
theorem ba_slot_init : Slot "bytearray" "__init__" "bytearray.__init__" :=
  .of (owner := "bytearray") (n := "__init__") (by rw [typeLookup_type, builtinLookup_eq_fast]; kernel_rfl) (by decide +kernel) (by decide +kernel) (by decide +kernel)
    (by first | exact .inl (by decide +kernel) | exact .inr (by decide +kernel)) ba_sub
theorem ba_slot_set : Slot "bytearray" "__setitem__" "bytearray.__setitem__" :=
  .of (owner := "bytearray") (n := "__setitem__") (by rw [typeLookup_type, builtinLookup_eq_fast]; kernel_rfl) (by decide +kernel) (by decide +kernel) (by decide +kernel)
    (by first | exact .inl (by decide +kernel) | exact .inr (by decide +kernel)) ba_sub
theorem ba_called : TypeCalled "bytearray" "bytearray.__new__" "bytearray.__init__" :=
  ⟨by decide +kernel, by decide +kernel, ⟨_, _, ba_mro⟩, madeBy_type ba_mro ba_lookup_new (by decide +kernel), by decide +kernel, ba_sub, ba_slot_init⟩
theorem ba_typeCall (a : Value) : checkTypeCall "bytearray" ⟨[a], []⟩ = Pure.pure () := by kernel_rfl
theorem ba_newCall (a : Value) : checkBuiltinCall "bytearray.__new__" ⟨[.type "bytearray", a], []⟩ = Pure.pure () := by kernel_rfl
theorem ba_plain_new : plainId "bytearray.__new__" = true := by decide +kernel
theorem ba_entry_new : entryFor table "bytearray.__new__" = some Builtin.«list.__new__» := entryFor_alias (id' := "list.__new__") (by kernel_rfl) (by decide +kernel) (by decide +kernel) (by kernel_rfl)
theorem ba_entry_init : entryFor table "bytearray.__init__" = some Builtin.«bytearray.__init__» := by first | exact entryFor_of_fast (by kernel_rfl) | exact entryFor_of_tree (by kernel_rfl)
theorem ba_entry_set : entryFor table "bytearray.__setitem__" = some Builtin.«bytearray.__setitem__» := by first | exact entryFor_of_fast (by kernel_rfl) | exact entryFor_of_tree (by kernel_rfl)
theorem ba_args_init (a b : Value) : argsOk "bytearray.__init__" ⟨[a, b], []⟩ := by unfold argsOk; kernel_rfl
theorem ba_args_set (a b c : Value) : argsOk "bytearray.__setitem__" ⟨[a, b, c], []⟩ := by unfold argsOk; kernel_rfl
theorem ba_bind (v : Value) : Builtin.Bytes.bindOptional "bytearray.__init__" "bytearray" ["source", "encoding", "errors"] [v] [] = Pure.pure [some v, none, none] := by kernel_rfl
set_option maxRecDepth 1000000 in
set_option maxHeartbeats 4000000 in
theorem ba_owner : ("bytearray.__new__".splitOn ".__new__").headD "" = "bytearray" := by simp +decide [String.splitOn, String.splitOnAux]
theorem ba_rel : typeLookup (.type "bytearray") "__release_buffer__" = Pure.pure (some (.builtin "bytearray.__release_buffer__")) := by rw [typeLookup_type, builtinLookup_eq_fast]; kernel_rfl
theorem ba_int_index : typeLookup (.type "int") "__index__" = Pure.pure (some (.builtin "int.__index__")) := by rw [typeLookup_type, builtinLookup_eq_fast]; kernel_rfl
theorem ba_no_bytes : typeLookup (.type "bytearray") "__bytes__" = Pure.pure none := by rw [typeLookup_type, builtinLookup_eq_fast]; kernel_rfl
theorem ba_no_index : typeLookup (.type "bytearray") "__index__" = Pure.pure none := by rw [typeLookup_type, builtinLookup_eq_fast]; kernel_rfl
theorem ba_buffer : typeLookup (.type "bytearray") "__buffer__" = Pure.pure (some (.builtin "bytearray.__buffer__")) := by rw [typeLookup_type, builtinLookup_eq_fast]; kernel_rfl
section
variable {prog : Program} {w : World} {A : Around} {E : Value → Shared → Prop} {s : Shared}
theorem ba_code_new (a : Value) {Q₁ : Value → Shared → Prop} (h : Q₁ (.ref s.heap.objs.size) { s with heap := s.heap.push { cls := .type "bytearray", data := .bytearray #[] } }) :
    codeAny (model prog w) A (.call (.builtin "bytearray.__new__") ⟨[.type "bytearray", a], []⟩) (wants Q₁ E) s := by
  refine codeAny_of_tree ?_
  show wpAny _ A.in1 (do checkBuiltinCall "bytearray.__new__" ⟨[.type "bytearray", a], []⟩; again (.builtin "bytearray.__new__" ⟨[.type "bytearray", a], []⟩)) _ _ s
  refine wpAny_bind (wpAny_of_eq (ba_newCall a) (wpAny_pure ⟨plainId_quiet ba_plain_new _, codeAny_builtin_stack ba_entry_new rfl fun p st => ?_⟩))
  rw [Around.under_plainId ba_plain_new _]
  have hsub := ba_sub
  have hown := ba_owner
  obtain ⟨hp, g, d, tk, os⟩ := s
  simp only [hown]
  wp_walk
  exact h
theorem ba_exported {v : Value} {Q : Bool → Shared → Prop} (h : Q false s) : wpC (model prog w) A (Builtin.Bytes.exported v) Q E s := fun Γ p i c => by
  unfold Builtin.Bytes.exported
  have key : ∀ (f : Code × Pos → Bool) (l : List (Code × Pos)), (∀ x ∈ l, okc x.1 = true) → (∀ x, okc x.1 = true → f x = false) → l.any f = false := by
    intro f l hl hf
    rw [List.any_eq_false]
    intro x hx
    rw [hf x (hl x hx)]; simp
  rw [Sem.wp_bind']
  show Q (List.any ((Γ.code, p) :: Γ.below) _) s
  rw [key _ _ (fun x hx => ?_) (fun x hx => ?_)]
  · exact h
  · rcases List.mem_cons.mp hx with rfl | hx
    · exact c.1
    · exact c.2 x hx
  · obtain ⟨cd, ps⟩ := x
    split
    · rename_i h; cases h; simp [okc] at hx
    · rename_i h; cases h; simp [okc] at hx
    · rename_i h; cases h; simp [okc] at hx
    · rename_i h; cases h; simp [okc] at hx
    · rename_i h; cases h; simp [okc] at hx
    · rename_i h
      cases h
      rename_i id v' _ _ _ _ _ _ _
      simp only [okc, Bool.not_eq_true'] at hx
      rw [List.contains_eq_any_beq, List.any_append, Bool.or_eq_false_iff, ← List.contains_eq_any_beq, ← List.contains_eq_any_beq] at hx
      have h2 := hx.2
      cases hc : Builtin.Bytes.decodersThatHold.contains id with
      | true => rw [hc] at h2; cases h2
      | false => rw [Bool.and_false]
    · rfl
theorem ba_own {a : Addr} {o : Obj} {Q : Bool → Shared → Prop} (ho : s.heap.get? a = some o) (hc : o.cls = .type "bytearray") (h : Q false s) : wpAny (model prog w) A (Builtin.Bytes.ownRelease (.ref a)) Q E s := by
  have hT : s.TypeIs (.ref a) "bytearray" := ⟨o, ho, hc⟩
  unfold Builtin.Bytes.ownRelease Builtin.Bytes.slotIsOwn
  refine wpAny_bind (wpAny_bind (wpAny_specialOf hT ba_rel ?_))
  dsimp only
  refine wpAny_ite_split (fun q => absurd q (by decide +kernel)) fun _ => ?_
  rw [show ("bytearray.__release_buffer__".dropRight ("__release_buffer__".length + 1)) = "bytearray" by decide +kernel]
  exact wpAny_isInstance hT ba_sub (wpAny_pure h)
abbrev baObj (b : Array UInt8) : Obj := { cls := .type "bytearray", data := .bytearray b }
theorem ba_write {a : Addr} {b : Array UInt8} {f : Array UInt8 → Array UInt8} {Q : Unit → Shared → Prop} (ho : s.heap.get? a = some (baObj b)) (hz : (f b).size ≤ sizeLine)
    (h : ∀ h', h'.get? a = some (baObj (f b)) → Heap.SameBut a s.heap h' → Q () { s with heap := h' }) : wpAny (model prog w) A (Builtin.Bytes.write (.ref a) f) Q E s := by
  show wpAny _ _ (updateBytearray a f) _ _ _
  unfold updateBytearray
  refine wpAny_bind (wpAny_load ho ?_)
  show wpAny _ _ (update a (Obj.mapBytearray f) >>= fun _ => lookBehind a) _ _ _
  refine wpAny_bind (wpAny_update ho ?_)
  have h2 : (s.heap.update a (Obj.mapBytearray f)).get? a = some (baObj (f b)) := Heap.get?_update_self (Obj.mapBytearray f) ho rfl
  refine wpAny_lookBehind h2 ?_ (h _ h2 (Heap.SameBut.update ..))
  show (if (f b).size > sizeLine then some "bytearray:memory" else none) = none
  rw [if_neg (Nat.not_lt.mpr hz)]
theorem ba_payload {a : Addr} {b : Array UInt8} {Q : Array UInt8 → Shared → Prop} (ho : s.heap.get? a = some (baObj b)) (h : Q b s) : wpAny (model prog w) A (Builtin.Bytes.payload (.ref a)) Q E s := by
  unfold Builtin.Bytes.payload Builtin.Bytes.payload?
  refine wpAny_bind (wpAny_bind (wpAny_load ho ?_))
  exact wpAny_pure (wpAny_pure h)
theorem asStr_int (n : Int) (t : Tok) : asStr? (.int n t) = Pure.pure none := by kernel_rfl
theorem ba_init {R : Fin → Shared → Prop} {a : Addr} {n : Nat} {t : Tok} (hn : n ≤ 2 ^ 20) (ho : s.heap.get? a = some (baObj #[]))
    (h : ∀ h', h'.get? a = some (baObj (Array.replicate n 0)) → Heap.SameBut a s.heap h' → R (.done (.ret .none)) { s with heap := h' }) :
    wpC (model prog w) A (Builtin.«bytearray.__init__» ⟨[.ref a, .int n t], []⟩) R E s := by
  unfold Builtin.«bytearray.__init__»
  refine wpC.bindA (ba_own ho rfl ?_)
  refine wpC.bindA (wpAny_of_eq (ba_bind _) ?_)
  refine wpC.bindA (wpAny_of_eq (a := ()) rfl ?_)
  refine wpC.bindA (wpAny_of_eq (a := ()) rfl ?_)
  refine wpC.bind (wpC.bind (ba_exported (wpC.of ?_)))
  show wpAny _ _ (Builtin.Bytes.exportsOf (.ref a) >>= fun n => Pure.pure (decide (n > 0))) _ _ s
  refine wpAny_bind ?_
  unfold Builtin.Bytes.exportsOf
  refine wpAny_bind (wpAny_load ho (wpAny_pure (wpAny_pure ?_)))
  refine wpC.of ?_
  refine bm_if_false (by decide) ?_
  refine wpAny_bind (ba_write ho (Nat.zero_le _) fun h₁ e₁ k₁ => ?_)
  have hT : ∀ s : Shared, s.TypeIs (.int n t) "int" := fun _ => rfl
  with_reducible refine wpAny_bind ?_
  with_reducible refine wpAny_of_eq (asStr_int n t) ?_
  with_reducible refine wpAny_ite_split ?_ ?_
  · intro q; cases q
  intro _
  with_reducible refine wpAny_bind ?_
  with_reducible refine wpAny_ite_split ?_ ?_
  · intro q; cases q
  intro _
  with_reducible refine wpAny_ite_split ?_ ?_
  · intro q; cases q
  intro _
  with_reducible refine wpAny_pure ?_
  with_reducible refine wpAny_bind ?_
  have hT1 := hT { s with heap := h₁ }
  with_reducible refine wpAny_specialOf hT1 ba_int_index ?_
  with_reducible refine wpAny_ite_split ?_ ?_
  rotate_left
  · intro q; exact absurd rfl q
  intro _
  with_reducible refine wpAny_bind ?_
  have e3 : asIndex (.int n t) = Pure.pure (n : Int) := rfl
  with_reducible refine wpAny_attempt ?_
  with_reducible refine wpAny_of_eq e3 ?_
  have f1 : Builtin.Bytes.fitsIndex (n : Int) = true := by simp [Builtin.Bytes.fitsIndex]; omega
  have f2 : Builtin.Bytes.tooLong ((n : Int).toNat) = false := by simp [Builtin.Bytes.tooLong, sizeLine]; omega
  with_reducible refine wpAny_ite_split ?_ ?_
  · intro q; rw [f1] at q; cases q
  intro _
  with_reducible refine wpAny_ite_split ?_ ?_
  · intro q; omega
  intro _
  with_reducible refine wpAny_ite_split ?_ ?_
  · intro q; simp at q; omega
  intro _
  with_reducible refine wpAny_ite_split ?_ ?_
  · intro q; rw [f2] at q; cases q
  intro _
  with_reducible refine wpAny_bind ?_
  with_reducible refine wpAny_rule ?_
  have fin : ∀ h', h'.get? a = some (baObj (Array.replicate n 0)) → Heap.SameBut a s.heap h' → wpAny (model prog w) A (ret .none : Sem PySem.Fin) R E { s with heap := h' } := fun h' e k => wpAny_pure (h h' e k)
  with_reducible refine wpAny_ite_split ?_ ?_
  · intro q
    with_reducible refine wpAny_bind ?_
    with_reducible refine ba_write e₁ ?_ fun h₂ e₂ k₂ => ?_
    · simp; exact size_le_of hn
    · exact fin h₂ (by simpa using e₂) (k₁.trans k₂)
  · intro q
    have : n = 0 := by omega
    subst this
    exact fin h₁ e₁ k₁
end
end Mine

end
section
set_option maxRecDepth 100000
namespace Mine
open PySem PySem.W PySem.Calls PyProof.Rows
section
variable {α : Type} {M : Model} {A : Around} {E : Value → Shared → Prop} {s : Shared}
theorem wpC.ite {c : Prop} [Decidable c] {a b : Sem α} {Q : α → Shared → Prop} (ha : c → wpC M A a Q E s) (hb : ¬ c → wpC M A b Q E s) : wpC M A (if c then a else b) Q E s := by
  by_cases h : c
  · rw [if_pos h]; exact ha h
  · rw [if_neg h]; exact hb h
theorem wpC.ofEq {t : Sem α} {a : α} {Q : α → Shared → Prop} (h : t = Pure.pure a) (hQ : Q a s) : wpC M A t Q E s := wpC.of (wpAny_of_eq h hQ)
end
section
variable {prog : Program} {w : World} {A : Around} {E : Value → Shared → Prop} {s : Shared}
theorem codeC.builtin {id : String} {args : Args} {b : Builtin} {R : Result → Shared → Prop} (ok : okc (.builtin id args) = true) (hb : entryFor table id = some b)
    (h : wpC (model prog w) (A.under (.builtin id args)) (b args) (fun fin s' => match fin with | .done f => R (.ok f) s' | .again c' => c'.quiet = true ∧ codeC (model prog w) A c' R s') (fun e s' => R (.error e) s') s) : codeC (model prog w) A (.builtin id args) R s := by
  refine codeC.tree ok ?_
  show wpC _ _ (match entryFor table id with | some b => b args | none => unsupported ((withoutEnding? id "#data").getD id)) _ _ s
  rw [hb]; exact h
theorem ok_type_call (args : Args) : okc (.builtin "type.__call__" args) = true := by simp only [okc]; decide +kernel
theorem ok_init (args : Args) : okc (.builtin "bytearray.__init__" args) = true := by simp only [okc]; decide +kernel
theorem ba_call {n : Nat} {t : Tok} {Q : Value → Shared → Prop} (hn : n ≤ 2 ^ 20) (h : ∀ h' a, Le s.heap h' → s.heap.get? a = none → h'.get? a = some (baObj (Array.replicate n 0)) → Q (.ref a) { s with heap := h' }) :
    wpC (model prog w) A (call (.type "bytearray") [.int n t]) Q E s := by
  refine wpC.call (codeC.tree rfl ?_)
  show wpC _ _ (callAny (.type "bytearray") _) _ _ _
  refine wpC.pure ⟨Code.quiet_builtin _ (by decide +kernel), codeC.builtin (ok_type_call _) F.entry_type_call ?_⟩
  rw [Around.under_plain (weight_type_call_type "bytearray" [.int n t] []) rfl]
  unfold Builtin.«type.__call__»
  dsimp only
  with_reducible refine wpC.ite ?_ ?_
  · intro q; exact absurd q (by rw [ba_called.notType]; exact Bool.false_ne_true)
  intro _
  with_reducible refine wpC.ite ?_ ?_
  · intro q; exact absurd (q.symm.trans ba_called.canCreate) (by decide)
  intro _
  have e1 := ba_typeCall (.int n t)
  with_reducible refine wpC.bind ?_
  with_reducible refine wpC.ofEq e1 ?_
  with_reducible refine wpC.bind ?_
  with_reducible refine wpC.ofEq ba_mro ?_
  with_reducible refine wpC.ite ?_ ?_
  · intro q; cases q
  intro _
  with_reducible refine wpC.bind ?_
  with_reducible refine wpC.ofEq ba_called.made ?_
  dsimp only
  with_reducible refine wpC.bind ?_
  with_reducible refine wpC.pure ?_
  with_reducible refine wpC.bind ?_
  with_reducible refine wpC.holding ?_
  refine wpC.of (wpAny_call (codeAny_mono (ba_code_new (Q₁ := fun v s' => v = .ref s.heap.objs.size ∧ s' = { s with heap := s.heap.push (baObj #[]) }) (E := fun _ _ => False) _ ⟨rfl, rfl⟩) fun r s₁ hr => ?_))
  cases r with
  | error e => exact hr.elim
  | ok fl =>
  cases fl with
  | next => exact hr.elim
  | brk => exact hr.elim
  | cont => exact hr.elim
  | ret obj =>
  obtain ⟨rfl, rfl⟩ := hr
  dsimp only
  have ho : (s.heap.push (baObj #[])).get? s.heap.objs.size = some (baObj #[]) := Heap.get?_push_size _ rfl
  have hT : Shared.TypeIs { s with heap := s.heap.push (baObj #[]) } (.ref s.heap.objs.size) "bytearray" := ⟨_, ho, rfl⟩
  with_reducible refine wpC.bind ?_
  refine wpC.of (wpAny_isInstance hT ba_sub ?_)
  with_reducible refine wpC.ite ?_ ?_
  · intro q; cases q
  intro _
  with_reducible refine wpC.bind ?_
  with_reducible refine wpC.holding ?_
  unfold callSpecial?
  with_reducible refine wpC.bind ?_
  refine wpC.of (wpAny_specialOf hT ba_slot_init.lookup ?_)
  dsimp only
  with_reducible refine wpC.holding ?_
  with_reducible refine wpC.bind ?_
  have e2 := ba_slot_init.bind (.ref s.heap.objs.size)
  with_reducible refine wpC.ofEq e2 ?_
  dsimp only
  with_reducible refine wpC.bind ?_
  refine wpC.call (codeC.tree rfl ?_)
  show wpC _ _ (do checkBuiltinCall "bytearray.__init__" ⟨[.ref s.heap.objs.size, .int n t], []⟩; again (.builtin "bytearray.__init__" ⟨[.ref s.heap.objs.size, .int n t], []⟩)) _ _ _
  with_reducible refine wpC.bind ?_
  refine wpC.of (ba_slot_init.check _ _ _ _ _ _ _ _ hT (ba_args_init _ _) ?_)
  refine wpC.pure ⟨plainId_quiet ba_slot_init.plain _, codeC.builtin (ok_init _) ba_entry_init ?_⟩
  refine ba_init hn ho fun h' e k => ?_
  dsimp only
  with_reducible refine wpC.pure ?_
  dsimp only
  with_reducible refine wpC.ite ?_ ?_
  · intro q; exact absurd q (by decide)
  intro _
  refine wpC.pure ?_
  have kk : Le s.heap h' := fun b o q => (k.2 b (Nat.ne_of_lt (Heap.lt_size q))).trans (Heap.get?_push_of_some _ q)
  exact h h' _ kk (fresh_size s.heap) e
end
end Mine

end
section
set_option maxRecDepth 100000
namespace Mine
open PySem PySem.W PySem.Calls PyProof.Rows
section
variable {prog : Program} {w : World} {A : Around} {E : Value → Shared → Prop} {s : Shared}
theorem ba_set {a : Addr} {b : Array UInt8} {k x : Nat} {tk tx : Tok} {Q : Unit → Shared → Prop} (ho : s.heap.get? a = some (baObj b)) (hk : k < b.size) (hz : b.size ≤ 2 ^ 20) (hx : x < 256)
    (h : ∀ h', h'.get? a = some (baObj (b.setIfInBounds k x.toUInt8)) → Heap.SameBut a s.heap h' → Q () { s with heap := h' }) : wpAny (model prog w) A (setItem (.ref a) (.int k tk) (.int x tx)) Q E s := by
  have hT : s.TypeIs (.ref a) "bytearray" := ⟨_, ho, rfl⟩
  unfold setItem
  with_reducible refine wpAny_holding ?_
  with_reducible refine wpAny_bind ?_
  refine wpAny_sequenceKey hT (by decide) ?_
  with_reducible refine wpAny_bind ?_
  refine wpAny_callSpecial?_slot (name := Str.ofString "__setitem__") hT ba_slot_set (wpAny_call_entry ba_slot_set hT ba_entry_set ?_ (ba_args_set _ _ _))
  unfold Builtin.«bytearray.__setitem__»
  dsimp only
  with_reducible refine wpAny_ite_split ?_ ?_
  · intro q; cases q
  intro _
  with_reducible refine wpAny_bind ?_
  unfold Builtin.Bytes.subscript?
  with_reducible refine wpAny_bind ?_
  have hT1 : s.TypeIs (.int k tk) "int" := rfl
  with_reducible refine wpAny_specialOf hT1 ba_int_index ?_
  with_reducible refine wpAny_ite_split ?_ ?_
  · intro q; cases q
  intro _
  with_reducible refine wpAny_bind ?_
  have e3 : asIndex (.int k tk) = Pure.pure (k : Int) := rfl
  with_reducible refine wpAny_of_eq e3 ?_
  have f1 : Builtin.Bytes.fitsIndex (k : Int) = true := by simp [Builtin.Bytes.fitsIndex]; omega
  with_reducible refine wpAny_ite_split ?_ ?_
  · intro q; rw [f1] at q; cases q
  intro _
  with_reducible refine wpAny_pure ?_
  dsimp only
  with_reducible refine wpAny_bind ?_
  unfold Builtin.Bytes.byteValue
  with_reducible refine wpAny_bind ?_
  have e4 : asIndex (.int x tx) = Pure.pure (x : Int) := rfl
  with_reducible refine wpAny_of_eq e4 ?_
  with_reducible refine wpAny_ite_split ?_ ?_
  · intro q; simp at q; omega
  intro _
  with_reducible refine wpAny_pure ?_
  with_reducible refine wpAny_bind ?_
  refine ba_payload ho ?_
  have hj : seqIndex? (k : Int) b.size = some k := by
    have h2 : ((decide ((0 : Int) ≤ k)) && (decide ((k : Int) < (b.size : Int)))) = true := by simp only [Bool.and_eq_true, decide_eq_true_eq]; omega
    unfold seqIndex?
    simp only [if_neg (show ¬ (k : Int) < 0 by omega), h2, if_true, Int.toNat_natCast]
  rw [hj]
  dsimp only
  with_reducible refine wpAny_bind ?_
  refine ba_write ho (by simp; exact size_le_of hz) fun h' e' k' => ?_
  have ex : ((x : Int).toNat.toUInt8) = x.toUInt8 := by simp
  rw [ex] at e'
  refine wpAny_pure ⟨.none, rfl, ?_⟩
  exact wpAny_pure (h h' e' k')
theorem ba_bytes_new {l : Addr} {b : Array UInt8} {Q : Value → Shared → Prop} (ho : s.heap.get? l = some (baObj b)) (hz : b.size ≤ 2 ^ 20) (hQ : ∀ t k, Q (.bytes b t) { s with toks := k }) :
    codeAny (model prog w) A (.call (.builtin "bytes.__new__") ⟨[.type "bytes", .ref l], []⟩) (wants Q E) s := by
  refine codeAny_of_tree ?_
  show wpAny _ A.in1 (do checkBuiltinCall "bytes.__new__" ⟨[.type "bytes", .ref l], []⟩; again (.builtin "bytes.__new__" ⟨[.type "bytes", .ref l], []⟩)) _ _ s
  refine wpAny_bind (wpAny_of_eq (F.bm_newCall _) (wpAny_pure ⟨plainId_quiet F.bm_plain _, codeAny_builtin F.bm_entry ?_⟩))
  rw [Around.under_plainId F.bm_plain _]
  have hT : s.TypeIs (.ref l) "bytearray" := ⟨_, ho, rfl⟩
  unfold Builtin.«bytes.__new__»
  refine wpAny_bind (wpAny_of_eq (a := true) rfl ?_)
  refine bm_if_false rfl ?_
  refine wpAny_bind (wpAny_of_eq F.bm_sub ?_)
  refine bm_if_false rfl ?_
  refine wpAny_bind (wpAny_of_eq (F.bm_bind _) ?_)
  refine wpAny_bind (wpAny_of_eq (a := ()) rfl ?_)
  refine wpAny_bind (wpAny_of_eq (a := ()) rfl ?_)
  refine bm_if_false rfl ?_
  refine wpAny_bind (wpAny_specialOf hT ba_no_bytes ?_)
  refine wpAny_bind (wpAny_bind ?_)
  show wpAny _ _ (load l >>= _) _ _ _
  refine wpAny_bind (wpAny_load ho ?_)
  refine wpAny_pure (wpAny_pure ?_)
  refine bm_if_false rfl ?_
  refine wpAny_bind (wpAny_specialOf hT ba_no_index ?_)
  refine bm_if_true rfl ?_
  first
    | show wpAny _ _ (Builtin.Bytes.buffer? "bytes.__new__" (.ref l) true >>= _) _ _ _
    | (refine wpAny_bind ?_; show wpAny _ _ (Builtin.Bytes.buffer? "bytes.__new__" (.ref l) true >>= _) _ _ _)
  refine wpAny_bind ?_
  unfold Builtin.Bytes.buffer?
  refine wpAny_bind (wpAny_specialOf hT ba_buffer ?_)
  dsimp only
  refine wpAny_bind ?_
  unfold Builtin.Bytes.slotIsOwn
  refine wpAny_bind (wpAny_specialOf hT ba_buffer ?_)
  dsimp only
  refine wpAny_ite_split (fun q => absurd q (by decide +kernel)) fun _ => ?_
  rw [show ("bytearray.__buffer__".dropRight ("__buffer__".length + 1)) = "bytearray" by decide +kernel]
  refine wpAny_isInstance hT ba_sub ?_
  with_reducible refine wpAny_ite_split ?_ ?_
  · intro q; cases q
  intro _
  refine wpAny_bind (wpAny_specialOf hT ba_buffer ?_)
  refine wpAny_bind (ba_own ho rfl ?_)
  with_reducible refine wpAny_ite_split ?_ ?_
  · intro q; cases q
  intro _
  refine wpAny_bind (ba_payload ho (wpAny_pure ?_))
  dsimp only
  with_reducible refine wpAny_bind ?_
  with_reducible refine wpAny_rule ?_
  with_reducible refine wpAny_bind ?_
  refine wpAny_mkBytes ?_ (size_le_of hz)
  show wpAny _ _ (if (Value.type "bytes" == Value.type "bytes") = true then _ else _) _ _ _
  refine bm_if_true (by decide) ?_
  first
    | exact wpAny_pure (hQ _ _)
    | exact wpAny_bind (wpAny_pure (wpAny_pure (hQ _ _)))
end
section
variable {prog : Program} {w : World} {A : Around} {h₀ : Heap} {env : Env} {func e : Expr} {pos : Pos}
theorem callBytesBA {a : Addr} {l : List Nat} (ho : h₀.get? a = some (baObj (mkB l))) (hr : ∀ x ∈ l, x < 256) (hz : l.length ≤ 2 ^ 20) : Ev prog w A h₀ (call (.type "bytes") [.ref a]) (DT (.bts l)) := by
  intro r h tk Q E k q
  refine callType_codes (Q₁ := fun obj s₁ => s₁.TypeIs obj "bytes" ∧ Q obj s₁) F.bm_called (F.bm_typeCall _) F.entry_object_init
    (ba_bytes_new (k _ _ ho) (by rw [mkB_size]; exact hz) fun t k' => ⟨PySem.W.typeIs_bytes _ _ _, q _ h k' (Le.refl _) (.bts _ _ hr)⟩) fun obj s₁ h₁ => ?_
  exact ⟨h₁.1, F.args_object_init_2 obj _, object_init_meets F.bm_called.init.lookup F.bm_called.made (by decide) prog w A.in1 _ s₁ ⟨h₁.1, rfl, h₁.2⟩⟩
theorem callRange3 {a b c : Int} {t u v : Tok} (hc : c ≠ 0) (hs : Builtin.divisionGoesByPylong (b - a) c = false) : Ev prog w A h₀ (call (.type "range") [.int a t, .int b u, .int c v]) (fun _ y h' => ∃ l t u v, y = .ref l ∧ IsRange h' l a b c t u v) := by
  intro s h tk Q E k q
  exact call_range_3 hc (q _ _ _ (Le.push _ _) ⟨_, _, _, _, rfl, IsRange.new ..⟩) (.inl hs)
/-! ## expressions in C -/
def EvC (prog : Program) (w : World) (A : Around) (h₀ : Heap) (t : Sem Value) (φ : Heap → Value → Heap → Prop) : Prop :=
  ∀ (r : Rst) (h : Heap) (tk : Nat) (Q : Value → Shared → Prop) (E : Value → Shared → Prop), Le h₀ h → (∀ a h' tk', Le h h' → φ h a h' → Q a (r.st h' tk')) → wpC (model prog w) A t Q E (r.st h tk)
theorem EvC.of {t : Sem Value} {φ : Heap → Value → Heap → Prop} (x : Ev prog w A h₀ t φ) : EvC prog w A h₀ t φ := fun r h tk Q E k q => wpC.of (x r h tk Q E k q)
theorem EvC.mono {t : Sem Value} {φ ψ : Heap → Value → Heap → Prop} (x : EvC prog w A h₀ t φ) (k : ∀ h a h', Le h₀ h → Le h h' → φ h a h' → ψ h a h') : EvC prog w A h₀ t ψ := fun r h tk Q E l q => x r h tk Q E l fun a h' tk' l' f => q a h' tk' l' (k _ _ _ l l' f)
theorem EvC.lift {h₁ : Heap} {t : Sem Value} {φ : Heap → Value → Heap → Prop} (x : EvC prog w A h₀ t φ) (k : Le h₀ h₁) : EvC prog w A h₁ t φ := fun r h tk Q E l q => x r h tk Q E (k.trans l) q
end
section
variable {prog : Program} {w : World} {A : Around} {s : Shared} {R : Result → Shared → Prop}
theorem codeC.func {body : List Stmt} {env : Env}
    (h : wpC (model prog w) (A.deeper env) (execs body env) (fun f s' => R (.ok (.ret (match f with | .ret v => v | _ => .none))) s') NoE s) : codeC (model prog w) A (.func body env) R s := by
  refine codeC.tree rfl ?_
  show wpC _ (A.deeper env) (do point; match ← (execs body env).onRaise (leaving env) with | .ret v => ret v | _ => ret .none) _ _ s
  refine wpC.bindA (wpAny_point (wpC.bind (wpC.onRaise (h.mono (fun f s' h' => ?_) fun _ _ z => z.elim))))
  cases f <;> exact wpC.pure h'
theorem codeC.callFn {a : Addr} {o : Obj} {fd : FuncData} {body : List Stmt} {vals : List Value} {binds : List (Str × Value)}
    (hroom : A.depth < recursionLimit) (ho : s.heap.get? a = some o) (hdata : o.data = .func fd) (hlim : s.heap.NoLimit) (hcd : s.heap.CodeRec fd.code fd.qualname)
    (hbody : fd.body = .stmts body) (hbind : bindArgs fd ⟨vals, []⟩ = Pure.pure binds) (hclo : fd.closure = [])
    (hkind : ∀ x ∈ binds, fd.scope.names.lookup x.1 = some .local ∨ (fd.scope.names.lookup x.1 = some .cell ∧ ((cellsFrom (s.heap.objs.size + 1) fd.scope.names []).lookup x.1).isSome = true))
    (h : ∀ s₁, InCallC s (callEnvC fd s.heap.objs.size a).locals (bindL (callEnvC fd s.heap.objs.size a).kindOf binds fun _ => none) (callEnvC fd s.heap.objs.size a).cells
        (bindC (callEnvC fd s.heap.objs.size a).kindOf binds fun _ => none) s₁ →
      wpC (model prog w) (A.deeper (callEnvC fd s.heap.objs.size a)) (execs body (callEnvC fd s.heap.objs.size a)) (fun f s' => R (.ok (.ret (match f with | .ret v => v | _ => .none))) s') NoE s₁)
    (hco : fd.scope.isCoroutine = false := by rfl) (hgen : fd.scope.isGenerator = false := by rfl) (hk : fd.scope.kind = .function := by rfl) : codeC (model prog w) A (.call (.ref a) ⟨vals, []⟩) R s := by
  refine codeC.tree rfl (wpC.of ?_)
  show wpAny _ A.in1 (callAny (.ref a) ⟨vals, []⟩) _ _ s
  simp only [callAny]
  refine wpAny_bind (wpAny_load ho ?_)
  obtain ⟨c, oc, vs, tq, hc, hoc, hdc, hq⟩ := hcd
  simp only [hdata, callFunction, hco, hgen, hbody, hc]
  refine wpAny_bind (m := field (.ref c) 1) (wpAny_field hoc hdc hq (wpAny_bind (wpAny_pure ?_)))
  rw [hbind, hclo]
  unfold callEnvC at h
  rw [hc] at h
  refine wpAny_bind (wpAny_pure (wpAny_bind (wpAny_newFunctionEnv_cells hk hkind fun env he s' x => ?_)))
  subst he
  exact wpAny_bind (wpAny_enterFrame (hlim.keeps x.toInCall.keep) hroom (wpAny_pure (And.intro rfl (codeC.func (h s' x)))))
end
section
variable {prog : Program} {w : World} {A : Around} {h₀ : Heap}
/-- a call of a def of the text's, by its body, in C -/
theorem EvC.fn {f : Addr} {o : Obj} {fd : FuncData} {body : List Stmt} {vals : List Value} {binds : List (Str × Value)} {φ : Heap → Value → Heap → Prop} (hroom : A.depth < recursionLimit) (B : Bs w h₀)
    (ho : h₀.get? f = some o) (hdata : o.data = .func fd) (hcd : h₀.CodeRec fd.code fd.qualname)
    (hbody : fd.body = .stmts body) (hbind : bindArgs fd ⟨vals, []⟩ = Pure.pure binds) (hclo : fd.closure = [])
    (hkind : ∀ n, ∀ x ∈ binds, fd.scope.names.lookup x.1 = some .local ∨ (fd.scope.names.lookup x.1 = some .cell ∧ ((cellsFrom n fd.scope.names []).lookup x.1).isSome = true))
    (hb : ∀ (r : Rst) (h : Heap), Le h₀ h → ∀ h₁ tk, Fr h h.objs.size h₁ (bindL (callEnvC fd h.objs.size f).kindOf binds fun _ => none) →
      (∀ n c, (callEnvC fd h.objs.size f).cells.lookup n = some c → h₁.IsCell c (bindC (callEnvC fd h.objs.size f).kindOf binds (fun _ => none) n) ∧ h.objs.size < c) →
      wpC (model prog w) (A.deeper (callEnvC fd h.objs.size f)) (execs body (callEnvC fd h.objs.size f)) (Ret r h φ) NoE (r.st h₁ tk))
    (hco : fd.scope.isCoroutine = false := by rfl) (hgen : fd.scope.isGenerator = false := by rfl) (hk : fd.scope.kind = .function := by rfl) : EvC prog w A h₀ (call (.ref f) vals) φ := by
  intro r h tk Q E hl q
  refine wpC.call (codeC.callFn hroom (hl _ _ ho) hdata (B.le hl).lim (let ⟨c, oc, vs, t, e, h1, r⟩ := hcd; ⟨c, oc, vs, t, e, hl _ _ h1, r⟩) hbody hbind hclo (hkind _) (fun s₁ X => ?_) hco hgen hk)
  obtain ⟨h₁, tk₁, rfl, _⟩ := X.done
  refine (hb r h hl h₁ tk₁ ⟨X.toInCall.ns, X.toInCall.keep, X.toInCall.fresh⟩ fun n c e => ⟨X.cell n c e, X.above n c (PySem.mem_of_lookup e)⟩).mono (fun fl s' hs => ?_) (fun _ _ z => z.elim)
  obtain ⟨v, h', tk', rfl, rfl, k, p⟩ := hs
  exact q v h' tk' k p
end
section
variable {M : Model} {A : Around} {E : Value → Shared → Prop} {s : Shared} {env : Env}
/-- a statement in any context, the rest in C -/
theorem wpC.execs {st : Stmt} {rest : List Stmt} {Q : Flow → Shared → Prop} (h : wpC M A (exec st env) (fun f s' => match f with | .next => wpC M A (execs rest env) Q E s' | f => Q f s') E s) : wpC M A (PySem.execs (st :: rest) env) Q E s := by
  rw [execs_cons]
  refine wpC.bind (h.mono (fun f s' h' => ?_) fun _ _ z => z)
  cases f <;> first | exact h' | exact wpC.pure h'
theorem wpC.Assign_Name {x : Str} {px pos : Pos} {value : Expr} {Q : Flow → Shared → Prop} (h : wpC M A (eval value env) (fun v s₁ => wpAny M A (storeName env x v) (fun _ => Q .next) E s₁) E s)
    (hs : swapsWith value (some (.Name x px)) pos.line env = Pure.pure false := by rfl) : wpC M A (exec (.Assign [.Name x px] value pos) env) Q E s := fun Γ p i c => by
  simp only [exec_Assign_Name env x px value pos hs, Sem.wp_bind', Sem.wp_cmd_standAt, Sem.wp_bindName, Sem.wp_pure']
  exact Sem.wp_mono M Γ _ (fun v _ s₁ h₁ => h₁ Γ _ i) (fun _ _ _ h' => h') _ _ (h Γ _ i c)
end
end Mine

end
section
set_option maxRecDepth 100000
namespace Mine
open PySem PySem.W PySem.Calls PyProof.Rows
section
variable {prog : Program} {w : World} {A : Around} {E : Value → Shared → Prop} {s : Shared} {Q : Value → Shared → Prop}
theorem wpC.keep {α : Type} {vs : List Value} {m : Sem α} {Q : α → Shared → Prop} (h : wpC (model prog w) A m Q E s) : wpC (model prog w) A (m.keep vs) Q E s := fun Γ p i c => by rw [Sem.wp_keep]; exact h Γ p i c
theorem callWithC {P : Heap → Prop} {pos : Pos} {f : Value} {first : List Value} {args : List (Bool × Sem Value)} (hplain : args.any (·.1) = false)
    (hk : ∀ h, P h → ∃ k, (k = Keeper.frame ∨ k = Keeper.machine ∨ k = Keeper.boundFrame) ∧ Looks (model prog w) h (keeperOf f) k)
    (h : wpC (model prog w) A (evalArgs f true args []) (fun a s₁ => P s₁.heap ∧ wpC (model prog w) A (call f (first ++ a.pos) a.kw) Q E s₁) E s) : wpC (model prog w) A (callWith pos f first args []) Q E s := by
  unfold callWith
  refine wpC.bind (wpC.holding (h.mono (fun a s₁ h₁ => wpC.bindA (wpAny_standAt ?_)) fun _ _ x => x))
  obtain ⟨k, hk', L⟩ := hk _ h₁.1
  simp only [hplain, List.any_nil, Bool.or_false]
  refine wpC.bindA (L.here ?_)
  have tail : ∀ {t : Sem Value}, wpC (model prog w) A t Q E s₁ → wpC (model prog w) A (t >>= fun r => holding [r] point >>= fun _ => Pure.pure r) Q E s₁ :=
    fun ht => wpC.bind (ht.mono (fun r s₂ hr => wpC.of (wpAny_bind (wpAny_holding (wpAny_point (wpAny_pure hr))))) fun _ _ x => x)
  have marked (mk : Value) : wpC (model prog w) A (callMarked mk f (first ++ a.pos) a.kw) Q E s₁ := by unfold callMarked; exact wpC.keep h₁.2
  rcases hk' with rfl | rfl | rfl <;> dsimp only <;> first | exact tail h₁.2 | (split <;> first | exact tail h₁.2 | exact tail (marked _))
theorem evalArgsC1 {f : Value} {x : Sem Value} {Q : Args → Shared → Prop} (h : wpC (model prog w) A x (fun v s' => Q ⟨[v], []⟩ s') E s) : wpC (model prog w) A (evalArgs f true [(false, x)] []) Q E s := by
  unfold evalArgs
  show wpC _ _ (spliced [(false, x)] >>= _) Q E s
  refine wpC.bind ?_
  rw [spliced]
  refine wpC.bind (h.mono (fun v s₁ h₁ => ?_) fun _ _ x => x)
  simp only [Bool.false_eq_true, if_false]
  refine wpC.of (wpAny_bind (wpAny_pure (wpAny_bind (wpAny_holding (wpAny_mono (spliced_nil (Q := fun vs s' => vs = [] ∧ s' = s₁) (E := E) ⟨rfl, rfl⟩) (fun vs s₂ hv => ?_) fun _ _ z => z)))))
  obtain ⟨rfl, rfl⟩ := hv
  refine wpAny_pure (wpC.of (wpAny_holding ?_))
  exact wpAny_bind (wpAny_pure (wpAny_bind (wpAny_pure (wpAny_pure h₁))))
end
section
variable {prog : Program} {w : World} {A : Around} {h₀ : Heap} {env : Env} {func e e' : Expr} {pos : Pos} {f : Value} {φ ψ χ : Heap → Value → Heap → Prop}
theorem EvC.call1 (g : Ev prog w A h₀ (eval func env) (VE f))
    (hk : ∀ h, Le h₀ h → ∃ k, (k = Keeper.frame ∨ k = Keeper.machine ∨ k = Keeper.boundFrame) ∧ Looks (model prog w) h (keeperOf f) k)
    (x : EvC prog w A h₀ (eval e env) φ) (z : ∀ h a h', Le h₀ h → Le h h' → φ h a h' → EvC prog w A h' (call f [a]) (fun _ b h'' => χ h b h'')) (dn : Dn χ)
    (hs : starEach [e] env = [(false, eval e env)] := by rfl)
    (he : eval (.Call func [e] [] pos) env = (do callWith pos (← eval func env) [] (backTo pos (starEach [e] env)) (backToKw pos (keywordEach [] env))) := by rfl) : EvC prog w A h₀ (eval (.Call func [e] [] pos) env) χ := by
  intro s h tk Q E hl q
  rw [he]
  refine wpC.bindA (g s h tk _ E hl fun y h₁ t₁ k₁ f₁ => ?_)
  subst f₁
  rw [hs]
  refine callWithC (P := Le h₁) rfl (fun h₂ k₂ => hk h₂ (hl.trans (k₁.trans k₂))) (evalArgsC1 ?_)
  refine (x.lift (hl.trans k₁)) s h₁ t₁ _ E (Le.refl _) fun a h₂ t₂ k₂ f₂ => ⟨k₂, ?_⟩
  exact z h₁ a h₂ (hl.trans k₁) k₂ f₂ s h₂ t₂ Q E (Le.refl _) fun b h₃ t₃ k₃ f₃ => q b h₃ t₃ (k₁.trans (k₂.trans k₃)) (dn k₁ f₃)
theorem EvC.call2 (g : Ev prog w A h₀ (eval func env) (VE f))
    (hk : ∀ h, Le h₀ h → ∃ k, (k = Keeper.frame ∨ k = Keeper.machine ∨ k = Keeper.boundFrame) ∧ Looks (model prog w) h (keeperOf f) k)
    (x : Ev prog w A h₀ (eval e env) φ) (y : Ev prog w A h₀ (eval e' env) ψ) (z : ∀ h a h₁ b h₂, Le h₀ h → Le h h₁ → Le h₁ h₂ → φ h a h₁ → ψ h₁ b h₂ → EvC prog w A h₂ (call f [a, b]) (fun _ c h₃ => χ h c h₃)) (dn : Dn χ)
    (hs : starEach [e, e'] env = [(false, eval e env), (false, eval e' env)] := by rfl)
    (he : eval (.Call func [e, e'] [] pos) env = (do callWith pos (← eval func env) [] (backTo pos (starEach [e, e'] env)) (backToKw pos (keywordEach [] env))) := by rfl) : EvC prog w A h₀ (eval (.Call func [e, e'] [] pos) env) χ := by
  intro s h tk Q E hl q
  rw [he]
  refine wpC.bindA (g s h tk _ E hl fun y₀ h₁ t₁ k₁ f₁ => ?_)
  subst f₁
  rw [hs]
  refine callWithC (P := Le h₁) rfl (fun h₂ k₂ => hk h₂ (hl.trans (k₁.trans k₂))) (wpC.of (evalArgs_plain (spliced_cons ?_)))
  refine x s h₁ t₁ _ E (hl.trans k₁) fun a h₂ t₂ k₂ f₂ => spliced_cons (y s h₂ t₂ _ E (hl.trans (k₁.trans k₂)) fun b h₃ t₃ k₃ f₃ => spliced_nil ⟨k₂.trans k₃, ?_⟩)
  exact z h₁ a h₂ b h₃ (hl.trans k₁) k₂ k₃ f₂ f₃ s h₃ t₃ Q E (Le.refl _) fun c h₄ t₄ k₄ f₄ => q c h₄ t₄ (k₁.trans (k₂.trans (k₃.trans k₄))) (dn k₁ f₄)
end
/-- `bytearray(n)` -/
theorem callBA {prog : Program} {w : World} {A : Around} {h₀ : Heap} {n : Nat} {t : Tok} (hn : n ≤ 2 ^ 20) : EvC prog w A h₀ (call (.type "bytearray") [.int n t]) (fun h y h' => ∃ a, y = .ref a ∧ h.get? a = none ∧ h'.get? a = some (baObj (Array.replicate n 0))) :=
  fun r h tk Q E k q => ba_call hn fun h' a l e1 e2 => q _ h' _ l ⟨a, rfl, e1, e2⟩
end Mine

end
section
set_option maxRecDepth 100000
namespace Mine
open PySem PySem.W PySem.Calls PyProof.Rows
section
variable {prog : Program} {w : World} {A : Around} {h₀ : Heap} {env : Env} {func e e' e'' : Expr} {pos : Pos} {f : Value} {φ ψ θ χ : Heap → Value → Heap → Prop}
theorem Ev.call3 (g : Ev prog w A h₀ (eval func env) (VE f))
    (hk : ∀ h, Le h₀ h → ∃ k, (k = Keeper.frame ∨ k = Keeper.machine ∨ k = Keeper.boundFrame) ∧ Looks (model prog w) h (keeperOf f) k)
    (x : Ev prog w A h₀ (eval e env) φ) (y : Ev prog w A h₀ (eval e' env) ψ) (z : Ev prog w A h₀ (eval e'' env) θ)
    (u : ∀ h a h₁ b h₂ c h₃, Le h₀ h → Le h h₁ → Le h₁ h₂ → Le h₂ h₃ → φ h a h₁ → ψ h₁ b h₂ → θ h₂ c h₃ → Ev prog w A h₃ (call f [a, b, c]) (fun _ d h₄ => χ h d h₄)) (dn : Dn χ)
    (hs : starEach [e, e', e''] env = [(false, eval e env), (false, eval e' env), (false, eval e'' env)] := by rfl)
    (he : eval (.Call func [e, e', e''] [] pos) env = (do callWith pos (← eval func env) [] (backTo pos (starEach [e, e', e''] env)) (backToKw pos (keywordEach [] env))) := by rfl) : Ev prog w A h₀ (eval (.Call func [e, e', e''] [] pos) env) χ := by
  intro s h tk Q E hl q
  refine Call_ (g s h tk _ E hl fun y₀ h₁ t₁ k₁ f₁ => ?_) he
  subst f₁
  rw [hs]
  refine callWith_of (P := Le h₁) rfl (fun h₂ k₂ => hk h₂ (hl.trans (k₁.trans k₂))) (evalArgs_plain (spliced_cons ?_))
  refine x s h₁ t₁ _ E (hl.trans k₁) fun a h₂ t₂ k₂ f₂ => spliced_cons (y s h₂ t₂ _ E (hl.trans (k₁.trans k₂)) fun b h₃ t₃ k₃ f₃ => spliced_cons (z s h₃ t₃ _ E (hl.trans (k₁.trans (k₂.trans k₃))) fun c h₄ t₄ k₄ f₄ => spliced_nil ⟨k₂.trans (k₃.trans k₄), ?_⟩))
  exact u h₁ a h₂ b h₃ c h₄ (hl.trans k₁) k₂ k₃ k₄ f₂ f₃ f₄ s h₄ t₄ Q E (Le.refl _) fun d h₅ t₅ k₅ f₅ => q d h₅ t₅ (k₁.trans (k₂.trans (k₃.trans (k₄.trans k₅)))) (dn k₁ f₅)
end
section
variable {prog : Program} {w : World} {A : Around} {g : Heap} {L : Addr} {h : Heap} {tk : Nat} {r : Rst} {m : Str → Option Value} {Φ : List (Addr × Obj)} {T : List (List Value × List Dt)} {env : Env} {E : Value → Shared → Prop}
/-- a[k] = x for a bytearray -/
theorem setBA {eo ei ev : Expr} {sp pos : Pos} {rest : List Stmt} {d : Addr} {b : Array UInt8} {k x : Nat} {Q : Flow → Shared → Prop} (W : Ws g L h m Φ T) (n : Nat) (hn : Φ[n]? = some (d, baObj b)) (hk : k < b.size) (hz : b.size ≤ 2 ^ 20) (hx : x < 256)
    (hv : Ev prog w A h (eval ev env) (DT (.int x))) (ho : Ev prog w A h (eval eo env) (VE (.ref d))) (hi : Ev prog w A h (eval ei env) (DT (.int k)))
    (q : ∀ h₃ tk₃, Ws g L h₃ m (Φ.set n (d, baObj (b.setIfInBounds k x.toUInt8))) T → wpAny (model prog w) A (execs rest env) Q E (r.st h₃ tk₃))
    (hs : swapsWith ev (some (.Subscript eo ei sp)) pos.line env = Pure.pure false := by rfl) : wpAny (model prog w) A (execs (.Assign [.Subscript eo ei sp] ev pos :: rest) env) Q E (r.st h tk) := by
  refine wpAny_execs_cons (wpAny_Assign_Subscript (hv r h tk _ E (Le.refl _) fun v h₁ t₁ k₁ f₁ => ho r h₁ t₁ _ E k₁ fun y h₂ t₂ k₂ f₂ => hi r h₂ t₂ _ E (k₁.trans k₂) fun i h₃ t₃ k₃ f₃ => ?_) hs)
  subst f₂
  cases f₁ with | int _ t4 =>
  cases f₃ with | int _ t5 =>
  have W₃ := W.le (k₁.trans (k₂.trans k₃))
  exact ba_set (W₃.get n hn) hk hz hx fun h' e' hs' => q h' _ (W₃.setAt hn hs' e' fun xs k c _ => absurd c (by simp))
end
def bsAt (l : List Nat) (j : Nat) : List Nat := List.replicate (4 - j) 0 ++ (l.take j).reverse
theorem mkB_set (l : List Nat) (k x : Nat) : (mkB l).setIfInBounds k x.toUInt8 = mkB (l.set k x) := by simp [mkB]
theorem mkB_zero (n : Nat) : (Array.replicate n 0 : Array UInt8) = mkB (List.replicate n 0) := by simp [mkB]
theorem swap_spec {prog : Program} {w : World} {A : Around} {h₀ : Heap} (hh : A.handled = none) (hroom : A.depth < recursionLimit) (B : Bs w h₀) {l : List Nat} {u v : Value} (hu : DV h₀ u (.bts l)) (hv : DV h₀ v (.int 4)) (hl4 : l.length = 4) :
    EvC prog w A h₀ (call (.ref 21) [u, v]) (DT (.bts l.reverse)) := by
  cases hu with | bts _ tu hu256 =>
  cases hv with | int _ tv =>
  have e4 : DT (.int (l.length : Int)) = DT (.int 4) := by rw [hl4]; rfl
  have hset : ∀ j, j < 4 → (bsAt l j).set (3 - j) (l.getD j 0) = bsAt l (j + 1) := by
    match l, hl4 with
    | [a, b, c, d], _ =>
      intro j hj
      match j, hj with
      | 0, _ => rfl
      | 1, _ => rfl
      | 2, _ => rfl
      | 3, _ => rfl
  have hlen : ∀ j, j ≤ 4 → (bsAt l j).length = 4 := by intro j hj; simp [bsAt, hl4]; omega
  have hend : bsAt l 4 = l.reverse := by simp [bsAt, List.take_of_length_le (Nat.le_of_eq hl4)]
  refine EvC.fn (binds := [("data", .bytes (mkB l) tu), ("width", .int 4 tv)]) hroom B (B.1 21 _ rfl) rfl (codeRec_of B.1 rfl) rfl rfl rfl ?_ ?_
  · intro n x hx
    simp only [List.mem_cons, List.not_mem_nil, or_false] at hx
    rcases hx with rfl | rfl
    · exact .inl rfl
    · exact .inl rfl
  · intro r h hl0 h₁ tk F C
    have k : Le h h₁ := F.keep
    have B1 := B.le (hl0.trans k)
    have W₀ := Ws.start F
    refine wpC.execs (wpC.Assign_Name ?_)
    refine EvC.call1 (f := .type "bytearray") (φ := DT (.int 4)) (χ := fun h y h' => ∃ a, y = .ref a ∧ h.get? a = none ∧ h'.get? a = some (baObj (Array.replicate 4 0))) (Ev.boot B1 rfl rfl (by decide) rfl rfl rfl rfl) (fun _ _ => keeps_type _) (EvC.of ?_) ?_ ?_ rfl rfl r h₁ tk _ _ (Le.refl _) ?_
    · rw [← e4]
      exact Ev.lenB (Ev.boot B1 rfl rfl (by decide) rfl rfl rfl rfl) (Ev.dname (.loc rfl rfl W₀.F.ns rfl) (.bts _ tu hu256)) (by rw [hl4]; decide)
    · intro h' a h₂ k₁ k₂ e
      cases e with | int _ t =>
      exact (callBA (n := 4) (by decide)).mono fun h3 b h4 l1 _ ⟨x, e1, e2, e3⟩ => ⟨x, e1, none_of_le (k₂.trans l1) e2, e3⟩
    · exact fun l1 ⟨x, e1, e2, e3⟩ => ⟨x, e1, none_of_le l1 e2, e3⟩
    · rintro y h₂ t₂ k₂ ⟨aB, rfl, eB, oB⟩
      rw [mkB_zero] at oB
      have W₂ := W₀.add k₂ eB oB
      refine stL W₂ rfl rfl rfl fun h₃ t₃ W₃ => wpC.of ?_
      have B3 := B.le (hl0.trans W₃.keep)
      refine wpAny_execs_cons ?_
      refine forRange (a := 0) (b := 4) (c := 4) (n₀ := 1) (fun i m Φ T => m "data" = some (.bytes (mkB l) tu) ∧ m "width" = some (.int 4 tv) ∧ m "swapped_data" = some (.ref aB) ∧ Φ = [(aB, baObj (mkB (if i = 0 then bsAt l 0 else l.reverse)))] ∧ T = []) hh W₃ ?_ (fun _ _ _ x => x) (by decide +kernel) (by decide +kernel) ?_ ?_ ?_
      · refine Ev.call3 (f := .type "range") (φ := DT (.int 0)) (ψ := DT (.int 4)) (θ := DT (.int 4)) (Ev.boot B3 rfl rfl (by decide) rfl rfl rfl rfl) (fun _ _ => keeps_type _) Ev.cint ?_ (Ev.dname (.loc rfl rfl W₃.F.ns rfl) (.int _ tv)) ?_ (fun _ x => x)
        · rw [← e4]
          exact Ev.lenB (Ev.boot B3 rfl rfl (by decide) rfl rfl rfl rfl) (Ev.dname (.loc rfl rfl W₃.F.ns rfl) (.bts _ tu hu256)) (by rw [hl4]; decide)
        · intro h a h₁ b h₂ c h₃ _ _ _ _ f1 f2 f3
          cases f1; cases f2; cases f3
          exact callRange3 (by decide) (by decide +kernel)
      · exact ⟨rfl, rfl, rfl, rfl, rfl⟩
      · rintro i t m Φ T H tk I oI ⟨hmD, hmW, hmS, rfl, rfl⟩ hi W'
        have hi0 : i = 0 := by omega
        subst hi0
        refine wpAny_assign_Name (stL W' rfl rfl rfl fun h₅ t₅ W₅ => ?_)
        have B5 := B.le (hl0.trans W₅.keep)
        refine wpAny_execs_cons ?_
        refine forRange (a := 0) (b := (4 : Nat)) (c := 1) (n₀ := 4) (fun j m Φ T => m "data" = some (.bytes (mkB l) tu) ∧ m "width" = some (.int 4 tv) ∧ m "swapped_data" = some (.ref aB) ∧ m "i" = some (.int 0 t) ∧ Φ = [(I, oI), (aB, baObj (mkB (bsAt l j)))] ∧ T = []) hh W₅
          (Ev.range1 (n := 4) (Ev.boot B5 rfl rfl (by decide) rfl rfl rfl rfl) (Ev.dname (.loc rfl rfl W₅.F.ns (upd_to hmW (by decide))) (.int _ tv))) (fun _ _ _ x => x) (small_one (by omega) (by omega) (by omega) (by omega)) (rsize 4) ?_ ?_ ?_
        · exact ⟨upd_to hmD (by decide), upd_to hmW (by decide), upd_to hmS (by decide), upd_eq, rfl, rfl⟩
        · clear hmD hmW hmS W₅ W'
          rintro j tj m Φ T H tk I₂ oI₂ ⟨hmD, hmW, hmS, hmI, rfl, rfl⟩ hj W'
          have e0 : (0 : Int) + (j : Int) * 1 = Int.ofNat j := by simp
          rw [e0]
          refine wpAny_assign_Name (stL W' rfl rfl rfl fun h₆ t₆ W₆ => ?_)
          have hz : (mkB (bsAt l j)).size = 4 := by rw [mkB_size, hlen j (by omega)]
          have hxm : l.getD j 0 < 256 := by
            have : l.getD j 0 = l[j]'(by omega) := by simp [List.getD, hl4, hj]
            rw [this]; exact hu256 _ (List.getElem_mem _)
          refine setBA (n := 2) (k := 3 - j) (x := l.getD j 0) W₆ rfl (by omega) (by omega) hxm ?_ (Ev.name (.loc rfl rfl W₆.F.ns (upd_to hmS (by decide)))) ?_ ?_
          · refine Ev.itemB (l := l) (i := 0 + Int.ofNat j) (Ev.dname (.loc rfl rfl W₆.F.ns (upd_to hmD (by decide))) (.bts _ tu hu256)) (Ev.binI (Ev.dname (.loc rfl rfl W₆.F.ns (upd_to hmI (by decide))) (.int _ t)) (Ev.dname (.loc rfl rfl W₆.F.ns upd_eq) (.int _ tj)) (BinI.add _ _)) (by simp) ?_ (by omega)
            simp [List.getD, hl4, hj]
          · have e9 : ((3 - j : Nat) : Int) = 0 + 4 - 1 - Int.ofNat j := by simp; omega
            rw [e9]
            exact Ev.binI (Ev.binI (Ev.binI (Ev.dname (.loc rfl rfl W₆.F.ns (upd_to hmI (by decide))) (.int _ t)) (Ev.dname (.loc rfl rfl W₆.F.ns (upd_to hmW (by decide))) (.int _ tv)) (BinI.add _ _)) Ev.cint (BinI.sub _ _)) (Ev.dname (.loc rfl rfl W₆.F.ns upd_eq) (.int _ tj)) (BinI.sub _ _)
          · intro h₇ t₇ W₇
            refine wpAny_execs_nil ?_
            rw [mkB_set, hset j hj] at W₇
            exact ⟨_, _, _, _, _, rfl, ⟨upd_to hmD (by decide), upd_to hmW (by decide), upd_to hmS (by decide), upd_to hmI (by decide), rfl, rfl⟩, W₇⟩
        · clear hmD hmW hmS W₅ W'
          rintro m Φ T H tk ⟨hmD, hmW, hmS, hmI, rfl, rfl⟩ W'
          rw [hend] at W'
          exact wpAny_execs_nil ⟨_, _, _, _, _, rfl, ⟨hmD, hmW, hmS, rfl, rfl⟩, W'⟩
      · rintro m Φ T H tk ⟨hmD, hmW, hmS, rfl, rfl⟩ W'
        have B5 := B.le (hl0.trans W'.keep)
        refine retE W'.keep (Ev.call1 (f := .type "bytes") (φ := VE (.ref aB)) (Ev.boot B5 rfl rfl (by decide) rfl rfl rfl rfl) (fun _ _ => keeps_type _) (Ev.name (.loc rfl rfl W'.F.ns hmS)) ?_ Dn.dt) Dn.dt
        intro h' a h₂ k₁ k₂ e
        subst e
        exact callBytesBA ((W'.le (k₁.trans k₂)).get 0) (fun x hx => hu256 x (List.mem_reverse.mp hx)) (by simp [hl4])
end Mine

end
section
set_option maxRecDepth 100000
namespace Mine
open PySem PySem.W PySem.Calls PyProof.Rows
/-! ## the views of a dict, whatever its keys are -/
def RawD (h : Heap) (d : Addr) (es : Array DictEntry) (ep : Nat) : Prop := ∃ o, h.get? d = some o ∧ o.ExactDict ∧ o.data = .dict es ep
theorem RawD.typeIs {s : Shared} {d : Addr} {es : Array DictEntry} {ep : Nat} (x : RawD s.heap d es ep) : s.TypeIs (.ref d) "dict" := let ⟨o, e, c, _⟩ := x; ⟨o, e, c.1⟩
theorem RawD.noDict {h : Heap} {d : Addr} {es : Array DictEntry} {ep : Nat} (x : RawD h d es ep) : ∀ b, Value.ref d = .ref b → ∃ ob, h.get? b = some ob ∧ ob.dict = none := fun b e => by
  injection e with e; subst e; exact let ⟨o, ho, hc, _⟩ := x; ⟨o, ho, hc.2.1⟩
section
variable {prog : Program} {w : World} {A : Around} {E : Value → Shared → Prop} {s : Shared}
theorem rd_items (d : Addr) (hd : (d == sysModules) = false) : MeetsIn prog w (Builtin.«dict.items» ⟨[.ref d], []⟩) (fun _ R s => (∃ es ep, RawD s.heap d es ep) ∧
      R (.ok (.ret (.ref s.heap.objs.size))) { s with heap := s.heap.push { cls := .type "dict_items", data := .fields #[.ref d] } }) :=
  .of_wp fun A R s ⟨⟨es, ep, hm⟩, h⟩ => by
    unfold Builtin.«dict.items»
    refine wpAny_bind ?_
    unfold Builtin.Dict.noArgs
    refine wpAny_bind (wpAny_notOrdered_dict hm.typeIs ?_)
    show wpAny _ _ (Pure.pure d) _ _ s
    refine wpAny_pure ?_
    show wpAny _ _ (Builtin.Dict.showsAll d >>= _) _ _ s
    unfold Builtin.Dict.showsAll
    rw [if_neg (by rw [hd]; exact Bool.false_ne_true)]
    refine wpAny_bind (wpAny_pure ?_)
    exact wpAny_bind (wpAny_newObj_type (wpAny_pure ⟨_, rfl, h⟩))
theorem rd_values (d : Addr) (hd : (d == sysModules) = false) : MeetsIn prog w (Builtin.«dict.values» ⟨[.ref d], []⟩) (fun _ R s => (∃ es ep, RawD s.heap d es ep) ∧
      R (.ok (.ret (.ref s.heap.objs.size))) { s with heap := s.heap.push { cls := .type "dict_values", data := .fields #[.ref d] } }) :=
  .of_wp fun A R s ⟨⟨es, ep, hm⟩, h⟩ => by
    refine wpAny_bind ?_
    unfold Builtin.Dict.noArgs
    refine wpAny_bind (wpAny_notOrdered_dict hm.typeIs ?_)
    show wpAny _ _ (Pure.pure d) _ _ s
    refine wpAny_pure ?_
    show wpAny _ _ (Builtin.Dict.showsAll d >>= _) _ _ s
    unfold Builtin.Dict.showsAll
    rw [if_neg (by rw [hd]; exact Bool.false_ne_true)]
    refine wpAny_bind (wpAny_pure ?_)
    exact wpAny_bind (wpAny_newObj_type (wpAny_pure ⟨_, rfl, h⟩))
theorem rd_iterI {v d : Addr} {es : Array DictEntry} {ep : Nat} {Q : Value → Shared → Prop} (hv : s.heap.IsItemsView v d) (hm : RawD s.heap d es ep)
    (hQ : Q (.ref s.heap.objs.size) { s with heap := s.heap.push { cls := .type "dict_itemiterator", data := .fields #[.none, .bool false, .ref d, .int 0 0, .int es.size 0, .int ep 0, .none, .none] } }) : wpAny (model prog w) A (pyIter (.ref v)) Q E s := by
  obtain ⟨ov, hov, hcv, hdv⟩ := id hv
  obtain ⟨o, ho, hc, hdat⟩ := hm
  refine wpAny_pyIter_slot hv.typeIs F.slot_dict_items_iter (wpAny_call_entry F.slot_dict_items_iter hv.typeIs F.entry_dict_items_iter ?_ (F.args_dict_items_iter_1 _))
  unfold Builtin.«dict_items.__iter__»
  refine wpAny_bind (wpAny_pure ?_)
  refine wpAny_bind ?_
  unfold Builtin.Dict_items.dictOf
  refine wpAny_bind (wpAny_field hov hdv (x := .ref d) rfl (wpAny_pure ?_))
  refine wpAny_bind ?_
  unfold Builtin.Dict_items.newIterator
  refine wpAny_bind (wpAny_dictEntries ho hdat ?_)
  refine wpAny_bind (wpAny_dictEpoch ho hdat ?_)
  have hown : Builtin.Dict_items.ownsTuple "dict_itemiterator" = true := by decide
  simp only [hown, if_true]
  refine wpAny_newObj_type (wpAny_pure ⟨_, rfl, "dict_itemiterator", _, ⟨_, Heap.get?_push_size _ rfl, rfl⟩, F.slot_dict_itemiterator_next.lookup, ?_⟩)
    (by simp only [sizeOk, Builtin.Dict_items.ownedTupleFields, List.size_toArray, List.length_append, List.length_cons, List.length_nil, sizeLine_eq]; omega)
  simpa [rawInt, Builtin.Dict_items.ownedTupleFields] using hQ
theorem rd_iterV {v d : Addr} {es : Array DictEntry} {ep : Nat} {Q : Value → Shared → Prop} (hv : s.heap.IsValuesView v d) (hm : RawD s.heap d es ep)
    (hQ : Q (.ref s.heap.objs.size) { s with heap := s.heap.push { cls := .type "dict_valueiterator", data := .fields #[.ref d, .int 0 0, .int es.size 0, .int ep 0] } }) : wpAny (model prog w) A (pyIter (.ref v)) Q E s := by
  obtain ⟨ov, hov, hcv, hdv⟩ := id hv
  obtain ⟨o, ho, hc, hdat⟩ := hm
  refine wpAny_pyIter_slot hv.typeIs F.slot_dict_values_iter (wpAny_call_entry F.slot_dict_values_iter hv.typeIs F.entry_dict_values_iter ?_ (F.args_dict_values_iter_1 _))
  unfold Builtin.«dict_values.__iter__»
  refine wpAny_bind (wpAny_pure ?_)
  refine wpAny_bind ?_
  unfold Builtin.Dict_items.dictOf
  refine wpAny_bind (wpAny_field hov hdv (x := .ref d) rfl (wpAny_pure ?_))
  refine wpAny_bind ?_
  unfold Builtin.Dict_items.newIterator
  refine wpAny_bind (wpAny_dictEntries ho hdat ?_)
  refine wpAny_bind (wpAny_dictEpoch ho hdat ?_)
  have hown : Builtin.Dict_items.ownsTuple "dict_valueiterator" = false := by decide
  simp only [hown, Bool.false_eq_true, if_false]
  refine wpAny_newObj_type (wpAny_pure ⟨_, rfl, "dict_valueiterator", _, ⟨_, Heap.get?_push_size _ rfl, rfl⟩, F.slot_dict_valueiterator_next.lookup, ?_⟩)
  simpa [rawInt] using hQ
theorem rd_stop {it : Addr} {n : Nat} {o : Obj} {vs : Array Value} {Q : Option Value → Shared → Prop} {R : Except Value Value → Shared → Prop} (hh : A.handled = none) (ho : s.heap.get? it = some o) (hd : o.data = .fields vs) (hn : n < vs.size)
    (hQ : ∀ (h' : Heap) e, Heap.ExtBut it s.heap h' → Shared.TypeIs { s with heap := h' } e "StopIteration" → E e { s with heap := h' }) :
    wpAny (model prog w) A (setField (.ref it) n .none >>= fun _ => (do raiseNew (← newExc (.type "StopIteration") []) : Sem PySem.Fin)) (fun _ _ => False) E s := by
  refine wpAny_bind (wpAny_setField ho hd hn ?_)
  refine wpAny_bind ?_
  simp only [newExc, newTuple]
  refine wpAny_bind (wpAny_newObj_type ?_ (by size_fits))
  refine wpAny_bind (m := firstArgMember _ _) (wpAny_of_eq (a := Value.none) (by first | rfl | (simp only [firstArgMember]; rfl)) ?_)
  refine wpAny_newObj_type ?_ (by size_fits)
  simp only [raiseNew]
  refine wpAny_bind (wpAny_handled ?_)
  rw [hh]
  refine wpAny_bind (wpAny_pure (wpAny_throw ?_))
  exact hQ _ _ (((Heap.SameBut.update ..).extBut.push _).push _) ⟨_, Heap.get?_push_size _ rfl, rfl⟩
theorem rd_nextV {it d : Addr} {i ep : Nat} {es : Array DictEntry} {e : DictEntry} {Q : Option Value → Shared → Prop} (hit : s.heap.IsValIter it d i es.size ep) (hm : RawD s.heap d es ep) (hx : es[i]? = some e)
    (hQ : ∀ h', h'.IsValIter it d (i + 1) es.size ep → Heap.SameBut it s.heap h' → Q (some e.val) { s with heap := h' }) : wpAny (model prog w) A (pyNext (.ref it)) Q E s := by
  obtain ⟨o, ho, hc, hd⟩ := id hit
  obtain ⟨od, hod, hcd, hdd⟩ := hm
  unfold pyNext
  refine wpAny_bind (wpAny_attempt (wpAny_callSpecial?_slot (name := Str.ofString "__next__") hit.typeIs F.slot_dict_valueiterator_next
    (wpAny_call_entry F.slot_dict_valueiterator_next hit.typeIs F.entry_dict_valueiterator_next ?_ (F.args_dict_valueiterator_next_1 _))))
  refine wpAny_bind (wpAny_pure ?_)
  refine wpAny_bind ?_
  refine wpAny_bind ?_
  first | refine wpAny_bind (wpAny_typeNameOfWhole_valiter hit.typeIs (wpAny_pure ?_)) | refine wpAny_bind (wpAny_typeNameOf_valiter hit.typeIs (wpAny_pure ?_))
  refine wpAny_bind (wpAny_fieldsOf ho hd ?_)
  have hown : Builtin.Dict_items.ownsTuple "dict_valueiterator" = false := by decide
  simp only [hown, Bool.false_eq_true, if_false]
  show wpAny _ _ (if (Value.ref d == Value.none) = true then _ else _) _ _ s
  rw [if_neg (show ¬ ((Value.ref d == Value.none) = true) from Bool.false_ne_true)]
  refine wpAny_bind (wpAny_pure ?_)
  refine wpAny_bind (wpAny_dictEntries hod hdd ?_)
  rw [if_neg (by simp)]
  refine wpAny_bind (wpAny_pure ?_)
  refine wpAny_bind (wpAny_dictEpoch hod hdd ?_)
  rw [if_neg (by simp)]
  refine wpAny_pure ?_
  simp only [show ¬ ((i : Int) < 0) from by omega, if_false, Int.toNat_natCast, hx]
  refine wpAny_bind ?_
  first | refine wpAny_bind (wpAny_typeNameOfWhole_valiter hit.typeIs (wpAny_pure ?_)) | refine wpAny_bind (wpAny_typeNameOf_valiter hit.typeIs (wpAny_pure ?_))
  refine wpAny_bind (wpAny_isOneOf_valiter hit.typeIs ?_)
  show wpAny _ _ (setField (.ref it) 1 (rawInt ((i : Int) + 1)) >>= _) _ _ s
  refine wpAny_bind (wpAny_setField ho hd (by simp) ?_)
  have hit' : (s.heap.update it (Obj.mapFields (·.setIfInBounds 1 (rawInt ((i : Int) + 1))))).IsValIter it d (i + 1) es.size ep :=
    ⟨_, Heap.get?_update_self _ ho (Obj.isFreed_of_fields (Obj.data_mapFields hd _)), (Obj.cls_mapFields ..).trans hc, by rw [Obj.data_mapFields hd]; simp [rawInt]⟩
  refine wpAny_bind (wpAny_holding ?_)
  refine wpAny_bind (wpAny_isOneOf_valiter (s := { s with heap := s.heap.update it (Obj.mapFields (·.setIfInBounds 1 (rawInt ((i : Int) + 1)))) }) hit'.typeIs ?_)
  refine wpAny_bind (wpAny_isOneOf_valiter (s := { s with heap := s.heap.update it (Obj.mapFields (·.setIfInBounds 1 (rawInt ((i : Int) + 1)))) }) hit'.typeIs ?_)
  show wpAny _ _ (Pure.pure e.val) _ _ _
  exact wpAny_pure (wpAny_pure ⟨_, rfl, wpAny_pure (hQ _ hit' (Heap.SameBut.update ..))⟩)
theorem rd_endV {it d : Addr} {i ep : Nat} {es : Array DictEntry} {Q : Option Value → Shared → Prop} (hh : A.handled = none) (hit : s.heap.IsValIter it d i es.size ep) (hm : RawD s.heap d es ep) (hx : es[i]? = none)
    (hQ : ∀ h', Heap.ExtBut it s.heap h' → Q none { s with heap := h' }) : wpAny (model prog w) A (pyNext (.ref it)) Q E s := by
  obtain ⟨o, ho, hc, hd⟩ := id hit
  obtain ⟨od, hod, hcd, hdd⟩ := hm
  unfold pyNext
  refine wpAny_bind (wpAny_attempt (wpAny_callSpecial?_slot (name := Str.ofString "__next__") hit.typeIs F.slot_dict_valueiterator_next
    (wpAny_call_entry F.slot_dict_valueiterator_next hit.typeIs F.entry_dict_valueiterator_next ?_ (F.args_dict_valueiterator_next_1 _))))
  refine wpAny_bind (wpAny_pure ?_)
  refine wpAny_bind ?_
  refine wpAny_bind ?_
  first | refine wpAny_bind (wpAny_typeNameOfWhole_valiter hit.typeIs (wpAny_pure ?_)) | refine wpAny_bind (wpAny_typeNameOf_valiter hit.typeIs (wpAny_pure ?_))
  refine wpAny_bind (wpAny_fieldsOf ho hd ?_)
  have hown : Builtin.Dict_items.ownsTuple "dict_valueiterator" = false := by decide
  simp only [hown, Bool.false_eq_true, if_false]
  show wpAny _ _ (if (Value.ref d == Value.none) = true then _ else _) _ _ s
  rw [if_neg (show ¬ ((Value.ref d == Value.none) = true) from Bool.false_ne_true)]
  refine wpAny_bind (wpAny_pure ?_)
  refine wpAny_bind (wpAny_dictEntries hod hdd ?_)
  rw [if_neg (by simp)]
  refine wpAny_bind (wpAny_pure ?_)
  refine wpAny_bind (wpAny_dictEpoch hod hdd ?_)
  rw [if_neg (by simp)]
  refine wpAny_pure ?_
  simp only [show ¬ ((i : Int) < 0) from by omega, if_false, Int.toNat_natCast, hx]
  refine wpAny_bind ?_
  first | refine wpAny_bind (wpAny_typeNameOfWhole_valiter hit.typeIs (wpAny_pure ?_)) | refine wpAny_bind (wpAny_typeNameOf_valiter hit.typeIs (wpAny_pure ?_))
  refine wpAny_mono (rd_stop (R := fun _ _ => True) (Q := Q) hh ho hd (n := 0) (by simp) fun h' e k t => ?_) (fun _ _ z => z.elim) fun _ _ z => z
  exact wpAny_bind (wpAny_isInstance (T := "StopIteration") (b := true) t isSubtype_stop (wpAny_pure (hQ _ k)))
end
end Mine

end
section
set_option maxRecDepth 100000
namespace Mine
open PySem PySem.W PySem.Calls PyProof.Rows
section
variable {prog : Program} {w : World} {A : Around} {E : Value → Shared → Prop} {s : Shared}
theorem rd_nextI {it d : Addr} {i ep : Nat} {es : Array DictEntry} {e : DictEntry} {ok ov : Value} {Q : Option Value → Shared → Prop} (hit : IsItemIter s.heap it d i es.size ep ok ov) (hm : RawD s.heap d es ep) (hx : es[i]? = some e)
    (hQ : ∀ h', IsItemIterOut h' it d (i + 1) es.size ep e.key e.val s.heap.objs.size → h'.get? s.heap.objs.size = some { cls := .type "tuple", data := .seq #[e.key, e.val] } → h'.objs.size = s.heap.objs.size + 1 →
      (∀ b o, b ≠ it → s.heap.get? b = some o → h'.get? b = some o) → Q (some (.ref s.heap.objs.size)) { s with heap := h' }) : wpAny (model prog w) A (pyNext (.ref it)) Q E s := by
  obtain ⟨hp, g, dr, tk, os⟩ := s
  obtain ⟨od, hod, hcd, hdd⟩ := hm
  have hT : Shared.TypeIs ⟨hp, g, dr, tk, os⟩ (.ref it) "dict_itemiterator" := ⟨_, hit, rfl⟩
  unfold pyNext
  refine wpAny_bind (wpAny_attempt (wpAny_callSpecial?_slot (name := Str.ofString "__next__") hT F.slot_dict_itemiterator_next
    (wpAny_call_entry F.slot_dict_itemiterator_next hT F.entry_dict_itemiterator_next ?_ (F.args_dict_itemiterator_next_1 _))))
  refine wpAny_bind (wpAny_pure ?_)
  refine wpAny_bind ?_
  refine wpAny_bind ?_
  first | refine wpAny_bind (wpAny_typeNameOfWhole_itemiter hT (wpAny_pure ?_)) | refine wpAny_bind (wpAny_typeNameOf_itemiter hT (wpAny_pure ?_))
  refine wpAny_bind (wpAny_fieldsOf hit rfl ?_)
  have hown : Builtin.Dict_items.ownsTuple "dict_itemiterator" = true := by decide
  simp only [hown, if_true]
  show wpAny _ _ (if (Value.ref d == Value.none) = true then _ else _) _ _ _
  rw [if_neg (show ¬ ((Value.ref d == Value.none) = true) from Bool.false_ne_true)]
  refine wpAny_bind (wpAny_pure ?_)
  refine wpAny_bind (wpAny_dictEntries hod hdd ?_)
  rw [if_neg (by simp)]
  refine wpAny_bind (wpAny_pure ?_)
  refine wpAny_bind (wpAny_dictEpoch hod hdd ?_)
  rw [if_neg (by simp)]
  refine wpAny_pure ?_
  simp only [show ¬ ((i : Int) < 0) from by omega, if_false, Int.toNat_natCast, hx]
  refine wpAny_bind ?_
  first | refine wpAny_bind (wpAny_typeNameOfWhole_itemiter hT (wpAny_pure ?_)) | refine wpAny_bind (wpAny_typeNameOf_itemiter hT (wpAny_pure ?_))
  refine wpAny_bind (wpAny_isOneOf_itemiter hT ?_)
  show wpAny _ _ (setField (.ref it) 3 (rawInt ((i : Int) + 1)) >>= _) _ _ ⟨hp, g, dr, tk, os⟩
  refine wpAny_bind (wpAny_setField_rec hit (by simp) fun h₁ he₁ hs₁ => ?_)
  replace hs₁ : Heap.SameBut it hp h₁ := hs₁
  replace he₁ : IsItemIter h₁ it d (i + 1) es.size ep ok ov := by
    have e1 : ((i + 1 : Nat) : Int) = (i : Int) + 1 := by omega
    unfold IsItemIter; rw [e1]; simpa [rawInt] using he₁
  have hT₁ : Shared.TypeIs ⟨h₁, g, dr, tk, os⟩ (.ref it) "dict_itemiterator" := ⟨_, he₁, rfl⟩
  refine wpAny_bind (wpAny_holding ?_)
  refine wpAny_bind (wpAny_isOneOf_itemiter hT₁ ?_)
  refine wpAny_bind (wpAny_isOneOf_itemiter hT₁ ?_)
  show wpAny _ _ (Builtin.Dict_items.pairFromOwner (.ref it) 6 e.key e.val) _ _ ⟨h₁, g, dr, tk, os⟩
  unfold Builtin.Dict_items.pairFromOwner
  refine wpAny_bind (wpAny_newTuple ?_)
  have he₂ : IsItemIter (h₁.push { cls := .type "tuple", data := .seq #[e.key, e.val] }) it d (i + 1) es.size ep ok ov := Heap.get?_push_of_some _ he₁
  generalize hh₂ : h₁.push { cls := .type "tuple", data := .seq #[e.key, e.val] } = h₂ at he₂
  have hz₁ : h₁.objs.size = hp.objs.size := hs₁.1
  have hil : it < hp.objs.size := Heap.lt_size hit
  have ht₂ : h₂.get? hp.objs.size = some { cls := .type "tuple", data := .seq #[e.key, e.val] } := by rw [← hh₂, ← hz₁]; exact Heap.get?_push_size _ rfl
  have hz₂ : h₂.objs.size = hp.objs.size + 1 := by rw [← hh₂, Heap.size_push, hz₁]
  have hk₂ : ∀ b o, b ≠ it → hp.get? b = some o → h₂.get? b = some o := fun b o hb q => by rw [← hh₂]; exact Heap.get?_push_of_some _ (hs₁.extBut b o hb q)
  show wpAny _ _ (Builtin.Dict_items.ownedTupleIsFree (.ref it) >>= _) _ _ ⟨h₂, g, dr, tk, os⟩
  rw [hz₁]
  clear hh₂ he₁ hs₁ hT₁ hz₁ h₁
  refine wpAny_bind ?_
  unfold Builtin.Dict_items.ownedTupleIsFree
  refine wpAny_bind (wpAny_field he₂ rfl (x := .none) rfl (wpAny_pure ?_))
  simp only [if_true]
  refine wpAny_bind (wpAny_field he₂ rfl (x := ok) rfl ?_)
  refine wpAny_bind (wpAny_field he₂ rfl (x := ov) rfl ?_)
  refine wpAny_bind (wpAny_setField_rec he₂ (by simp) fun h₃ he₃ hs₃ => ?_)
  replace hs₃ : Heap.SameBut it h₂ h₃ := hs₃
  replace he₃ : IsItemIter h₃ it d (i + 1) es.size ep e.key ov := he₃
  refine wpAny_bind (wpAny_setField_rec he₃ (by simp) fun h₄ he₄ hs₄ => ?_)
  replace hs₄ : Heap.SameBut it h₃ h₄ := hs₄
  replace he₄ : IsItemIter h₄ it d (i + 1) es.size ep e.key e.val := he₄
  refine wpAny_bind (wpAny_setField_rec he₄ (by simp) fun h₅ he₅ hs₅ => ?_)
  replace hs₅ : Heap.SameBut it h₄ h₅ := hs₅
  replace he₅ : IsItemIterOut h₅ it d (i + 1) es.size ep e.key e.val hp.objs.size := he₅
  refine wpAny_bind (wpAny_setField_rec he₅ (by simp) fun h₆ he₆ hs₆ => ?_)
  replace hs₆ : Heap.SameBut it h₅ h₆ := hs₆
  replace he₆ : IsItemIterOut h₆ it d (i + 1) es.size ep e.key e.val hp.objs.size := he₆
  refine wpAny_bind (wpAny_letGo (wpAny_pure (wpAny_pure ⟨_, rfl, wpAny_pure (hQ h₆ he₆ ?_ ?_ ?_)⟩)))
  · exact hs₆.extBut _ _ (Nat.ne_of_gt hil) (hs₅.extBut _ _ (Nat.ne_of_gt hil) (hs₄.extBut _ _ (Nat.ne_of_gt hil) (hs₃.extBut _ _ (Nat.ne_of_gt hil) ht₂)))
  · show h₆.objs.size = hp.objs.size + 1
    rw [hs₆.1, hs₅.1, hs₄.1, hs₃.1, hz₂]
  · exact fun b o hb q => hs₆.extBut b o hb (hs₅.extBut b o hb (hs₄.extBut b o hb (hs₃.extBut b o hb (hk₂ b o hb q))))
theorem rd_endI {it d : Addr} {i ep : Nat} {es : Array DictEntry} {ok ov : Value} {Q : Option Value → Shared → Prop} (hh : A.handled = none) (hit : IsItemIter s.heap it d i es.size ep ok ov) (hm : RawD s.heap d es ep) (hx : es[i]? = none)
    (hQ : ∀ h', Heap.ExtBut it s.heap h' → Q none { s with heap := h' }) : wpAny (model prog w) A (pyNext (.ref it)) Q E s := by
  obtain ⟨od, hod, hcd, hdd⟩ := hm
  have hT : s.TypeIs (.ref it) "dict_itemiterator" := ⟨_, hit, rfl⟩
  unfold pyNext
  refine wpAny_bind (wpAny_attempt (wpAny_callSpecial?_slot (name := Str.ofString "__next__") hT F.slot_dict_itemiterator_next
    (wpAny_call_entry F.slot_dict_itemiterator_next hT F.entry_dict_itemiterator_next ?_ (F.args_dict_itemiterator_next_1 _))))
  refine wpAny_bind (wpAny_pure ?_)
  refine wpAny_bind ?_
  refine wpAny_bind ?_
  first | refine wpAny_bind (wpAny_typeNameOfWhole_itemiter hT (wpAny_pure ?_)) | refine wpAny_bind (wpAny_typeNameOf_itemiter hT (wpAny_pure ?_))
  refine wpAny_bind (wpAny_fieldsOf hit rfl ?_)
  have hown : Builtin.Dict_items.ownsTuple "dict_itemiterator" = true := by decide
  simp only [hown, if_true]
  show wpAny _ _ (if (Value.ref d == Value.none) = true then _ else _) _ _ s
  rw [if_neg (show ¬ ((Value.ref d == Value.none) = true) from Bool.false_ne_true)]
  refine wpAny_bind (wpAny_pure ?_)
  refine wpAny_bind (wpAny_dictEntries hod hdd ?_)
  rw [if_neg (by simp)]
  refine wpAny_bind (wpAny_pure ?_)
  refine wpAny_bind (wpAny_dictEpoch hod hdd ?_)
  rw [if_neg (by simp)]
  refine wpAny_pure ?_
  simp only [show ¬ ((i : Int) < 0) from by omega, if_false, Int.toNat_natCast, hx]
  refine wpAny_bind ?_
  first | refine wpAny_bind (wpAny_typeNameOfWhole_itemiter hT (wpAny_pure ?_)) | refine wpAny_bind (wpAny_typeNameOf_itemiter hT (wpAny_pure ?_))
  refine wpAny_mono (rd_stop (R := fun _ _ => True) (Q := Q) hh hit rfl (n := 2) (by simp) fun h' e k t => ?_) (fun _ _ z => z.elim) fun _ _ z => z
  exact wpAny_bind (wpAny_isInstance (T := "StopIteration") (b := true) t isSubtype_stop (wpAny_pure (hQ _ k)))
end
end Mine

end
section
set_option maxRecDepth 100000
namespace Mine
open PySem PySem.W PySem.Calls PyProof.Rows
section
variable {prog : Program} {w : World} {A : Around} {g : Heap} {L : Addr} {h : Heap} {tk : Nat} {r : Rst} {m : Str → Option Value} {Φ : List (Addr × Obj)} {T : List (List Value × List Dt)} {env : Env} {E : Value → Shared → Prop}
theorem Ws.headX {I : Addr} {oI o' : Obj} {h' : Heap} (W : Ws g L h m ((I, oI) :: Φ) T) (k : Heap.ExtBut I h h') (e : h'.get? I = some o') (nt : ∀ xs k, oI.cls = .type "tuple" → oI.data = .seq xs k → False) : Ws g L h' m ((I, o') :: Φ) T := by
  have D := W.N (I, oI) (.head _)
  have R := W.rest k nt
  exact ⟨R.F, fun p hp => by
    rcases List.mem_cons.mp hp with rfl | hp
    · exact ⟨e, D.2⟩
    · exact R.N p hp, List.nodup_cons.mpr ⟨(List.nodup_cons.mp W.nd).1, R.nd⟩, R.T⟩
theorem RawD.le {h h' : Heap} {d : Addr} {es : Array DictEntry} {ep : Nat} (x : RawD h d es ep) (k : Le h h') : RawD h' d es ep := let ⟨o, e, r⟩ := x; ⟨o, k _ _ e, r⟩
/-- for x, y in d.items(): d stays as it is -/
theorem forItems {xk xv : Str} {pk pv pt pos apos cpos : Pos} {n1 : Nat} {eo : Expr} {body : List Stmt} {d : Addr} {es : Array DictEntry} {ep : Nat} {Q : Flow → Shared → Prop} (J : RInv) (hh : A.handled = none) (W : Ws g L h m Φ T)
    (ho : Ev prog w A h (eval eo env) (VE (.ref d))) (lo : (d == sysModules) = false) (hxk : env.kindOf xk = some .local) (hxv : env.kindOf xv = some .local) (hk : env.scope.kind = .function) (he : env.locals = L)
    (hraw : ∀ i m Φ T H, J i m Φ T → Ws g L H m Φ T → RawD H d es ep) (hdL : d ≠ L) (hJ : J 0 m Φ T)
    (turn : ∀ i e m Φ T H tk I oI, J i m Φ T → es[i]? = some e → Ws g L H (upd (upd m xk e.key) xv e.val) ((I, oI) :: Φ) T →
      wpAny (model prog w) A (execs body env) (REnd g L r I oI J i Q) NoE (r.st H tk))
    (done : ∀ m Φ T H tk, J es.size m Φ T → Ws g L H m Φ T → Q .next (r.st H tk))
    (hbase : attributeBase eo "items" env (eval eo env) = eval eo env := by rfl) (hline : (apos.endLine == cpos.line) = true := by decide)
    (hs : ∀ x, foldedSetIterable (.Call (.Attribute eo "items" apos) [] [] cpos) env x = Pure.pure x := by intro _; rfl) :
    wpAny (model prog w) A (exec (.For (.Tuple [.Name xk pk, .Name xv pv] n1 pt) (.Call (.Attribute eo "items" apos) [] [] cpos) body [] pos) env) Q NoE (r.st h tk) := by
  refine wpAny_For ?_ hs
  refine wpAny_Call_method (T := "dict") (id := "dict.items") hbase rfl hline F.plainAttrs_dict F.slot_dict_items F.type_dict_items (ho r h tk _ _ (Le.refl _) fun y h₁ t₁ k₁ f₁ => ?_)
  subst f₁
  have W₁ := W.le k₁
  have R₁ := hraw _ _ _ _ _ hJ W₁
  refine ⟨RawD.typeIs (s := r.st h₁ t₁) R₁, R₁.noDict, ?_⟩
  show wpAny _ _ (callWith cpos (.builtin "dict.items") [.ref d] [] []) _ _ _
  refine method_meetsIn F.slot_dict_items F.entry_dict_items rfl (PyProof.Rows.evalArgs_none ⟨rfl, RawD.typeIs (s := r.st h₁ t₁) R₁, F.args_dict_items_1 _, _, rd_items d lo, ⟨es, ep, R₁⟩, ?_⟩)
  have W₂ := W₁.le (Le.push h₁ ({ cls := .type "dict_items", data := .fields #[.ref d] } : Obj))
  refine rd_iterI (d := d) ⟨_, Heap.get?_push_size _ rfl, rfl, rfl⟩ (R₁.le (Le.push _ _)) ?_
  generalize hH : h₁.push { cls := .type "dict_items", data := .fields #[.ref d] } = h₂ at W₂
  have hnt : ∀ (vs : Array Value) xs k, ({ cls := .type "dict_itemiterator", data := .fields vs } : Obj).cls = .type "tuple" → ({ cls := .type "dict_itemiterator", data := .fields vs } : Obj).data = .seq xs k → False := fun _ _ _ _ q => by cases q
  refine codeAny_forLoop_any (fun n s => ∃ i m Φ T H tk ok ov, s = r.st H tk ∧ i ≤ es.size ∧ n = es.size - i ∧ J i m Φ T ∧ Ws g L H m ((h₂.objs.size, { cls := .type "dict_itemiterator", dict := none, data := .fields #[.none, .bool false, .ref d, .int i 0, .int es.size 0, .int ep 0, ok, ov], slots := #[] }) :: Φ) T) ?_ es.size
    ⟨0, m, Φ, T, _, t₁, .none, .none, rfl, Nat.zero_le _, rfl, hJ, W₂.add (Le.push _ _) (fresh_size _) (Heap.get?_push_size _ rfl)⟩
  · clear hJ W₁ R₁ W₂
    rintro n s ⟨i, m, Φ, T, H, tk, ok, ov, rfl, hi, rfl, hJ', W'⟩
    have D := W'.N _ (.head _)
    have hit : IsItemIter H h₂.objs.size d i es.size ep ok ov := D.1
    have R := hraw _ _ _ _ _ hJ' (W'.sub (List.sublist_cons_self _ _) fun _ p => p)
    have hne : d ≠ h₂.objs.size := by
      rintro rfl
      obtain ⟨o, ho, hc, hd⟩ := R
      rw [D.1] at ho; cases ho; cases hd
    cases hx : es[i]? with
    | none =>
      have : i = es.size := by have := Array.getElem?_eq_none_iff.mp hx; omega
      subst this
      refine rd_endI hh hit R hx fun h₃ k₃ => wpAny_execs_nil ?_
      exact done _ _ _ _ _ hJ' (W'.rest k₃ (hnt _))
    | some e =>
      have hlt : i < es.size := (Array.getElem?_eq_some_iff.mp hx).1
      refine rd_nextI hit R hx fun h₃ heo ht₃ hz₃ hk₃ => ?_
      have hk3 : ∀ b o, b ≠ h₂.objs.size → H.get? b = some o → h₃.get? b = some o := hk₃
      refine wpAny_letOwnedTupleGo_items heo fun h₄ he₄ hs₄ => ?_
      have hs4 : Heap.SameBut h₂.objs.size h₃ h₄ := hs₄
      have x₄ : Heap.ExtBut h₂.objs.size H h₄ := fun b o hb q => hs4.extBut b o hb (hk3 b o hb q)
      have W₄ := W'.headX x₄ he₄ (hnt _)
      have hiH : h₂.objs.size < H.objs.size := Heap.lt_size hit
      have ht₄ : h₄.IsTuple H.objs.size #[e.key, e.val] := ⟨_, (hs4.2 _ (Nat.ne_of_gt hiH)).trans ht₃, rfl, _, rfl⟩
      refine wpAny_assign_Tuple hh ht₄ rfl rfl fun h₅ x₅ => ?_
      have k₅ : Le h₄ h₅ := fun b o q => x₅ b o (Nat.ne_of_lt (Heap.lt_size q)) q
      have W₅ := W₄.le k₅
      show wpAny _ _ (do holding [e.val] (assign (.Name xk pk) env e.key); holding [] (assign (.Name xv pv) env e.val); Pure.pure ()) _ _ _
      refine wpAny_bind (wpAny_holding (wpAny_assign_Name (stL W₅ hxk hk he fun h₆ t₆ W₆ => ?_)))
      refine wpAny_bind (wpAny_holding (wpAny_assign_Name (stL W₆ hxv hk he fun h₇ t₇ W₇ => wpAny_pure ?_)))
      refine wpAny_mono (turn i e m Φ T h₇ t₇ _ _ hJ' hx W₇) (fun f s₃ z => ?_) fun _ _ z => z.elim
      have fin : (∃ m' Φ' T' H' tk', s₃ = r.st H' tk' ∧ J (i + 1) m' Φ' T' ∧ Ws g L H' m' ((h₂.objs.size, { cls := .type "dict_itemiterator", dict := none, data := .fields #[.none, .bool false, .ref d, .int (i + 1 : Nat) 0, .int es.size 0, .int ep 0, e.key, e.val], slots := #[] }) :: Φ') T') →
          ∃ m, m < es.size - i ∧ (∃ i m' Φ T H tk ok ov, s₃ = r.st H tk ∧ i ≤ es.size ∧ m = es.size - i ∧ J i m' Φ T ∧ Ws g L H m' ((h₂.objs.size, { cls := .type "dict_itemiterator", dict := none, data := .fields #[.none, .bool false, .ref d, .int i 0, .int es.size 0, .int ep 0, ok, ov], slots := #[] }) :: Φ) T) := by
        rintro ⟨m', Φ', T', H', tk', e1, hJ'', W''⟩
        exact ⟨_, by omega, i + 1, m', Φ', T', H', tk', _, _, e1, hlt, rfl, hJ'', W''⟩
      cases f with
      | next => exact fin z
      | cont => exact fin z
      | brk => exact z
      | ret v => exact z
end
end Mine

end
section
set_option maxRecDepth 100000
namespace Mine
open PySem PySem.W PySem.Calls PyProof.Rows
section
variable {prog : Program} {w : World} {A : Around} {g : Heap} {L : Addr} {h : Heap} {tk : Nat} {r : Rst} {m : Str → Option Value} {Φ : List (Addr × Obj)} {T : List (List Value × List Dt)} {env : Env} {E : Value → Shared → Prop}
/-- for x in d.values(): d stays as it is -/
theorem forValues {x : Str} {px pos apos cpos : Pos} {eo : Expr} {body : List Stmt} {d : Addr} {es : Array DictEntry} {ep : Nat} {Q : Flow → Shared → Prop} (J : RInv) (hh : A.handled = none) (W : Ws g L h m Φ T)
    (ho : Ev prog w A h (eval eo env) (VE (.ref d))) (lo : (d == sysModules) = false) (hx : env.kindOf x = some .local) (hk : env.scope.kind = .function) (he : env.locals = L)
    (hraw : ∀ i m Φ T H, J i m Φ T → Ws g L H m Φ T → RawD H d es ep) (hJ : J 0 m Φ T)
    (turn : ∀ i e m Φ T H tk I oI, J i m Φ T → es[i]? = some e → Ws g L H (upd m x e.val) ((I, oI) :: Φ) T →
      wpAny (model prog w) A (execs body env) (REnd g L r I oI J i Q) NoE (r.st H tk))
    (done : ∀ m Φ T H tk, J es.size m Φ T → Ws g L H m Φ T → Q .next (r.st H tk))
    (hbase : attributeBase eo "values" env (eval eo env) = eval eo env := by rfl) (hline : (apos.endLine == cpos.line) = true := by decide)
    (hs : ∀ x, foldedSetIterable (.Call (.Attribute eo "values" apos) [] [] cpos) env x = Pure.pure x := by intro _; rfl) :
    wpAny (model prog w) A (exec (.For (.Name x px) (.Call (.Attribute eo "values" apos) [] [] cpos) body [] pos) env) Q NoE (r.st h tk) := by
  refine wpAny_For ?_ hs
  refine wpAny_Call_method (T := "dict") (id := "dict.values") hbase rfl hline F.plainAttrs_dict F.slot_dict_values F.type_dict_values (ho r h tk _ _ (Le.refl _) fun y h₁ t₁ k₁ f₁ => ?_)
  subst f₁
  have W₁ := W.le k₁
  have R₁ := hraw _ _ _ _ _ hJ W₁
  refine ⟨RawD.typeIs (s := r.st h₁ t₁) R₁, R₁.noDict, ?_⟩
  show wpAny _ _ (callWith cpos (.builtin "dict.values") [.ref d] [] []) _ _ _
  refine method_meetsIn F.slot_dict_values F.entry_dict_values rfl (PyProof.Rows.evalArgs_none ⟨rfl, RawD.typeIs (s := r.st h₁ t₁) R₁, F.args_dict_values_1 _, _, rd_values d lo, ⟨es, ep, R₁⟩, ?_⟩)
  have W₂ := W₁.le (Le.push h₁ ({ cls := .type "dict_values", data := .fields #[.ref d] } : Obj))
  refine rd_iterV (d := d) ⟨_, Heap.get?_push_size _ rfl, rfl, rfl⟩ (R₁.le (Le.push _ _)) ?_
  generalize hH : h₁.push { cls := .type "dict_values", data := .fields #[.ref d] } = h₂ at W₂
  refine codeAny_forLoop (fun n s => ∃ i m Φ T H tk I oI, s = r.st H tk ∧ i ≤ es.size ∧ n = es.size - i ∧ J i m Φ T ∧ Ws g L H m ((I, oI) :: Φ) T ∧ I = h₂.objs.size ∧ oI.cls = .type "dict_valueiterator" ∧ oI.data = .fields #[.ref d, .int i 0, .int es.size 0, .int ep 0]) ?_ es.size
    ⟨0, m, Φ, T, _, t₁, _, _, rfl, Nat.zero_le _, rfl, hJ, W₂.add (Le.push _ _) (fresh_size _) (Heap.get?_push_size _ rfl), rfl, rfl, rfl⟩
  · clear hJ W₁ R₁ W₂
    rintro n s ⟨i, m, Φ, T, H, tk, I, oI, rfl, hi, rfl, hJ', W', rfl, hc, hd⟩
    have D := W'.N (_, oI) (.head _)
    have nt : ∀ xs k, oI.cls = .type "tuple" → oI.data = .seq xs k → False := fun xs k c q => by rw [hd] at q; cases q
    have hit : H.IsValIter h₂.objs.size d i es.size ep := ⟨oI, D.1, hc, hd⟩
    have R := hraw _ _ _ _ _ hJ' (W'.sub (List.sublist_cons_self _ _) fun _ p => p)
    cases hx' : es[i]? with
    | none =>
      have : i = es.size := by have := Array.getElem?_eq_none_iff.mp hx'; omega
      subst this
      exact rd_endV hh hit R hx' fun h₃ k₃ => wpAny_execs_nil (done _ _ _ _ _ hJ' (W'.rest k₃ nt))
    | some e =>
      have hlt : i < es.size := (Array.getElem?_eq_some_iff.mp hx').1
      refine rd_nextV hit R hx' fun h₃ hit₃ hs₃ => ?_
      obtain ⟨o₃, e₃, c₃, d₃⟩ := hit₃
      have W₃ : Ws g L h₃ m ((h₂.objs.size, o₃) :: Φ) T := W'.setAt (n := 0) rfl hs₃ e₃ nt
      refine wpAny_assign_Name (stL W₃ hx hk he fun h₇ t₇ W₇ => ?_)
      refine wpAny_mono (turn i e m Φ T h₇ t₇ _ o₃ hJ' hx' W₇) (fun f s₃ z => ?_) fun _ _ z => z.elim
      have fin : (∃ m' Φ' T' H' tk', s₃ = r.st H' tk' ∧ J (i + 1) m' Φ' T' ∧ Ws g L H' m' ((h₂.objs.size, o₃) :: Φ') T') →
          ∃ m, m < es.size - i ∧ (∃ i m' Φ T H tk I oI, s₃ = r.st H tk ∧ i ≤ es.size ∧ m = es.size - i ∧ J i m' Φ T ∧ Ws g L H m' ((I, oI) :: Φ) T ∧ I = h₂.objs.size ∧ oI.cls = .type "dict_valueiterator" ∧ oI.data = .fields #[.ref d, .int i 0, .int es.size 0, .int ep 0]) := by
        rintro ⟨m', Φ', T', H', tk', e1, hJ'', W''⟩
        exact ⟨_, by omega, i + 1, m', Φ', T', H', tk', _, o₃, e1, hlt, rfl, hJ'', W'', rfl, c₃, d₃⟩
      cases f with
      | next => exact fin z
      | cont => exact fin z
      | brk => exact z
      | ret v => exact z
end
/-! ## the table of leaves: keys ('leaves', n, 'of') -/
def mixIs : Int ⊕ Str → Value → Bool
  | .inl i, v => Value.isInt i v
  | .inr x, v => Value.isStrOf x v
def mixKind (prog : Program) (w : World) : KeyKind prog w (Int ⊕ Str) where
  is := mixIs
  hash := fun k => match k with | .inl i => hashInt i | .inr x => hashStr w x
  inj := fun v a b ha hb => by
    cases a with
    | inl a => cases b with
      | inl b => rw [Value.isInt_inj v a b ha hb]
      | inr b =>
        obtain ⟨t, rfl⟩ := Value.isInt_shape ha
        simp [mixIs, Value.isStrOf] at hb
    | inr a => cases b with
      | inl b =>
        obtain ⟨t, rfl⟩ := Value.isInt_shape hb
        simp [mixIs, Value.isStrOf] at ha
      | inr b => rw [Value.isStrOf_inj v a b ha hb]
  byValue := fun k v h => by
    cases k with
    | inl i => exact (PySem.intKind prog w).byValue i v h
    | inr x => exact (PySem.strKind prog w).byValue x v h
  pyHash := fun {A E s k v Q} hv h => by
    cases k with
    | inl i => exact (PySem.intKind prog w).pyHash hv h
    | inr x => exact (PySem.strKind prog w).pyHash hv h
  eqBool := fun {A E s a b u v Q} ha hb h => by
    cases a with
    | inl a => cases b with
      | inl b => exact (PySem.intKind prog w).eqBool ha hb (by simpa using h)
      | inr b =>
        obtain ⟨t, rfl⟩ := Value.isInt_shape ha
        obtain ⟨u, rfl⟩ := Value.isStrOf_shape hb
        exact PySem.SeqAt.EqAt.int_str a t b u prog w E Q (by simpa using h)
    | inr a => cases b with
      | inl b =>
        obtain ⟨t, rfl⟩ := Value.isStrOf_shape ha
        obtain ⟨u, rfl⟩ := Value.isInt_shape hb
        exact PySem.SeqAt.EqAt.str_int a t b u prog w E Q (by simpa using h)
      | inr b => exact (PySem.strKind prog w).eqBool ha hb (by simpa using h)
  «strs» := fun k x t v h => by
    cases k with
    | inl i => exact (PySem.intKind prog w).strs i x t v h
    | inr y => exact (PySem.strKind prog w).strs y x t v h
abbrev lfKind (prog : Program) (w : World) : HeapKind prog w (List (Int ⊕ Str)) := tupleKind (mixKind prog w)
def lfK (n : Int) : List (Int ⊕ Str) := [.inr "leaves", .inl n, .inr "of"]
def lfD (n : Int) : Dt := .tup [.str "leaves", .int n, .str "of"]
theorem lfK_inj {a b : Int} (h : lfK a = lfK b) : a = b := by
  simp only [lfK, List.cons.injEq, Sum.inl.injEq] at h
  exact h.2.1
theorem lf_is {prog : Program} {w : World} {h : Heap} {a : Addr} {n : Int} (x : DV h (.ref a) (lfD n)) : (lfKind prog w).is h (lfK n) a := by
  cases x with
  | tup ha hd =>
    obtain ⟨o, ho, hc, k, hdat⟩ := ha
    refine ⟨o, _, k, ho, hc, hdat, ?_⟩
    cases hd with | cons h1 hd =>
    cases hd with | cons h2 hd =>
    cases hd with | cons h3 hd =>
    cases hd
    cases h1; cases h2; cases h3
    exact .cons (by simp [mixKind, mixIs, Value.isStrOf]) (.cons (by simp [mixKind, mixIs, Value.isInt]) (.cons (by simp [mixKind, mixIs, Value.isStrOf]) .nil))
end Mine

end
section
set_option maxRecDepth 100000
namespace Mine
open PySem PySem.W PySem.Calls PyProof.Rows
abbrev LE := Int × Addr × Int × Tok
def lfX (ys : List LE) : List (List (Int ⊕ Str) × Addr × Value) := ys.map fun y => (lfK y.1, y.2.1, .int y.2.2.1 y.2.2.2)
def LfO (prog : Program) (w : World) (o : Obj) (ys : List LE) (es : Array DictEntry) (ep : Nat) : Prop :=
  o.ExactDict ∧ o.data = .dict es ep ∧ es.toList = (lfX ys).map (entryOfKey (lfKind prog w)) ∧ (ys.map (·.1)).Nodup
def lfV (ys : List LE) : List Value := ys.map fun y => .ref y.2.1
def lfT (ys : List LE) : List Dt := ys.map fun y => lfD y.1
def lfC (ys : List LE) : List (Int × Int) := ys.map fun y => (y.1, y.2.2.1)
def lfPut (ys : List LE) (n : Int) (a : Addr) (c : Int) (t : Tok) : List LE := if n ∈ ys.map (·.1) then ys.map (fun y => if y.1 = n then (y.1, y.2.1, c, t) else y) else ys ++ [(n, a, c, t)]
def putC (kc : List (Int × Int)) (n c : Int) : List (Int × Int) := if n ∈ kc.map (·.1) then kc.map (fun y => if y.1 = n then (y.1, c) else y) else kc ++ [(n, c)]
theorem lfC_keys (ys : List LE) : (lfC ys).map (·.1) = ys.map (·.1) := by simp [lfC]
theorem lfC_put (ys : List LE) (n : Int) (a : Addr) (c : Int) (t : Tok) : lfC (lfPut ys n a c t) = putC (lfC ys) n c := by
  unfold lfPut putC
  rw [lfC_keys]
  split
  · simp only [lfC, List.map_map]
    refine List.map_congr_left fun y _ => ?_
    simp only [Function.comp]
    split <;> rfl
  · simp [lfC]
theorem lfT_put (ys : List LE) (n : Int) (a : Addr) (c : Int) (t : Tok) : lfT (lfPut ys n a c t) = if n ∈ ys.map (·.1) then lfT ys else lfT ys ++ [lfD n] := by
  unfold lfPut
  split
  · simp only [lfT, List.map_map]
    refine List.map_congr_left fun y _ => ?_
    simp only [Function.comp]
    split <;> rfl
  · simp [lfT]
theorem lfV_put (ys : List LE) (n : Int) (a : Addr) (c : Int) (t : Tok) : lfV (lfPut ys n a c t) = if n ∈ ys.map (·.1) then lfV ys else lfV ys ++ [.ref a] := by
  unfold lfPut
  split
  · simp only [lfV, List.map_map]
    refine List.map_congr_left fun y _ => ?_
    simp only [Function.comp]
    split <;> rfl
  · simp [lfV]
theorem lf_dvs {h : Heap} {ys : List LE} {n : Int} {a : Addr} {c : Int} {t : Tok} (x : DVs h (lfV ys) (lfT ys)) (y : DV h (.ref a) (lfD n)) : DVs h (lfV (lfPut ys n a c t)) (lfT (lfPut ys n a c t)) := by
  rw [lfT_put, lfV_put]
  split
  · exact x
  · exact x.snoc y
theorem atKey_lf (ys : List LE) (n : Int) : atKey (lfX ys) (lfK n) = (ys.find? fun y => decide (y.1 = n)).map fun y => (y.2.1, .int y.2.2.1 y.2.2.2) := by
  unfold atKey lfX
  rw [List.find?_map, Option.map_map]
  congr 1
  refine congrArg (fun p => List.find? p ys) (funext fun y => ?_)
  simp only [Function.comp]
  exact decide_eq_decide.mpr ⟨fun e => lfK_inj e, fun e => by rw [e]⟩
theorem find_key (ys : List LE) (n : Int) : (ys.find? fun y => decide (y.1 = n)).isSome = decide (n ∈ ys.map (·.1)) := by
  rw [Bool.eq_iff_iff, List.find?_isSome]
  simp
theorem storedH_lf (ys : List LE) (n : Int) (a : Addr) (c : Int) (t : Tok) : storedH (lfX ys) (lfK n) a (.int c t) = lfX (lfPut ys n a c t) := by
  unfold storedH lfPut
  rw [atKey_lf]
  by_cases hm : n ∈ ys.map (·.1)
  · have h1 := find_key ys n
    rw [decide_eq_true hm] at h1
    rw [if_pos (by rw [Option.isSome_map]; exact h1), if_pos hm]
    simp only [lfX, List.map_map]
    refine List.map_congr_left fun y _ => ?_
    simp only [Function.comp, putAt]
    by_cases e : y.1 = n
    · rw [if_pos (by rw [e]), if_pos e]
    · rw [if_neg (fun q => e (lfK_inj q)), if_neg e]
  · have h1 := find_key ys n
    rw [decide_eq_false hm] at h1
    rw [if_neg (by rw [Option.isSome_map, h1]; exact Bool.false_ne_true), if_neg hm]
    simp [lfX]
section
variable {prog : Program} {w : World} {A : Around} {h h₀ : Heap} {d : Addr} {o : Obj} {ys : List LE} {es : Array DictEntry} {ep : Nat}
theorem LfO.raw (x : LfO prog w o ys es ep) (e : h.get? d = some o) : RawD h d es ep := ⟨o, e, x.1, x.2.1⟩
theorem LfO.size (x : LfO prog w o ys es ep) : es.size = ys.length := by
  rw [← Array.length_toList, x.2.2.1]; simp [lfX]
theorem LfO.at (x : LfO prog w o ys es ep) {i : Nat} {e : DictEntry} (he : es[i]? = some e) : ∃ y, ys[i]? = some y ∧ e.key = .ref y.2.1 ∧ e.val = .int y.2.2.1 y.2.2.2 := by
  rw [← Array.getElem?_toList, x.2.2.1, lfX, List.map_map, List.getElem?_map] at he
  cases hy : ys[i]? with
  | none => rw [hy] at he; cases he
  | some y => rw [hy] at he; cases he; exact ⟨y, rfl, rfl, rfl⟩
theorem LfO.dictOf (x : LfO prog w o ys es ep) (e : h.get? d = some o) (k : DVs h (lfV ys) (lfT ys)) : h.DictOfH (lfKind prog w) d (lfX ys) := by
  refine ⟨o, es, ep, e, x.1, x.2.1, x.2.2.1, ?_, ?_⟩
  · intro p hp
    obtain ⟨y, hy, rfl⟩ := List.mem_map.mp hp
    obtain ⟨i, hi⟩ := List.mem_iff_getElem?.mp hy
    obtain ⟨v, hv, hd⟩ := k.at (i := i) (d := lfD y.1) (by simp [lfT, List.getElem?_map, hi])
    have : v = .ref y.2.1 := by simp [lfV, List.getElem?_map, hi] at hv; exact hv.symm
    subst this
    exact lf_is hd
  · simp only [lfX, List.map_map]
    have := x.2.2.2
    rw [show (ys.map ((fun p : List (Int ⊕ Str) × Addr × Value => p.1) ∘ fun y => (lfK y.1, y.2.1, (.int y.2.2.1 y.2.2.2 : Value)))) = (ys.map (·.1)).map lfK by simp [List.map_map, Function.comp_def]]
    exact List.Pairwise.map _ (fun a b ne e => ne (lfK_inj e)) this
theorem LfO.of (x : h.DictOfH (lfKind prog w) d (lfX ys)) : ∃ o es ep, h.get? d = some o ∧ LfO prog w o ys es ep := by
  obtain ⟨o, es, ep, e, c, dt, l, _, nd⟩ := x
  refine ⟨o, es, ep, e, c, dt, l, ?_⟩
  simp only [lfX, List.map_map] at nd
  have : ((ys.map (·.1)).map lfK).Nodup := by simpa [List.map_map, Function.comp_def] using nd
  exact (List.pairwise_map.mp this).imp fun ne e => ne (by rw [e])
theorem LfO.nt (x : LfO prog w o ys es ep) : ∀ xs k, o.cls = .type "tuple" → o.data = .seq xs k → False := fun xs k c _ => by
  rw [x.1.1] at c; injection c with c; exact absurd c (by decide)
theorem lfIn {a : Addr} {n : Int} {b : Bool} (hu : A.units + 64 < cLine) (e : h₀.get? d = some o) (x : LfO prog w o ys es ep) (k : DVs h₀ (lfV ys) (lfT ys)) (lo : (d == sysModules) = false) (hk : DV h₀ (.ref a) (lfD n)) (hb : b = true ↔ n ∈ ys.map (·.1)) :
    Ev prog w A h₀ (compareOp .In (.ref a) (.ref d)) (BT b) := by
  intro r h tk Q E l q
  refine wpAny_in_heap (knd := lfKind prog w) (show A.units + 1 < cLine by omega) (lf_is (hk.le l)) lo (x.dictOf (l _ _ e) (k.le l)) ?_
  have e1 : (atKey (lfX ys) (lfK n)).isSome = b := by rw [atKey_lf, Option.isSome_map, find_key, Bool.eq_iff_iff, hb]; simp
  rw [e1]
  exact q _ h _ (Le.refl _) rfl
end
section
variable {prog : Program} {w : World} {A : Around} {g : Heap} {L : Addr} {h : Heap} {tk : Nat} {r : Rst} {m : Str → Option Value} {Φ : List (Addr × Obj)} {T : List (List Value × List Dt)} {env : Env} {E : Value → Shared → Prop} {d : Addr} {o : Obj} {ys : List LE} {es : Array DictEntry} {ep : Nat}
theorem lfSet {a : Addr} {n c : Int} {t : Tok} {Q : Unit → Shared → Prop} (hu : A.units + 64 < cLine) (W : Ws g L h m Φ T) (i : Nat) (hi : Φ[i]? = some (d, o)) (x : LfO prog w o ys es ep) (hz : ys.length ≤ 2 ^ 20) (k : DVs h (lfV ys) (lfT ys)) (hk : DV h (.ref a) (lfD n))
    (q : ∀ h' tk' o' es' ep', LfO prog w o' (lfPut ys n a c t) es' ep' → DVs h' (lfV (lfPut ys n a c t)) (lfT (lfPut ys n a c t)) → TK h h' → Ws g L h' m (Φ.set i (d, o')) T → Q () (r.st h' tk')) :
    wpAny (model prog w) A (setItem (.ref d) (.ref a) (.int c t)) Q E (r.st h tk) := by
  refine wpAny_setItem_heap (knd := lfKind prog w) (hsz := size_le_of (by simpa [lfX] using hz)) (show A.units + 1 < cLine by omega) (lf_is hk) (x.dictOf (W.get i hi) k) fun h' hd' hs' => ?_
  have hd2 : h'.DictOfH (lfKind prog w) d (storedH (lfX ys) (lfK n) a (.int c t)) := hd'
  rw [storedH_lf] at hd2
  obtain ⟨o', es', ep', e', x'⟩ := LfO.of hd2
  have t : TK h h' := TK.but hs'.extBut fun o₁ xs k' e₁ c' z => by rw [W.get i hi] at e₁; cases e₁; exact x.nt xs k' c' z
  exact q h' _ o' es' ep' x' ((lf_dvs k hk).tk t) t (W.setAt hi hs' e' x.nt)
end
end Mine

end
section
set_option maxRecDepth 100000
namespace Mine
open PySem PySem.W PySem.Calls PyProof.Rows
def addC (kc : List (Int × Int)) (n c : Int) : List (Int × Int) := putC kc n (match kc.find? (fun y => decide (y.1 = n)) with | some y => y.2 + c | none => c)
def IsLf (prog : Program) (w : World) (h : Heap) (u : Value) (kc : List (Int × Int)) : Prop :=
  ∃ d o ys es ep, u = .ref d ∧ (d == sysModules) = false ∧ h.get? d = some o ∧ LfO prog w o ys es ep ∧ DVs h (lfV ys) (lfT ys) ∧ lfC ys = kc
theorem IsLf.le {prog : Program} {w : World} {h h' : Heap} {u : Value} {kc : List (Int × Int)} (x : IsLf prog w h u kc) (k : Le h h') : IsLf prog w h' u kc :=
  let ⟨d, o, ys, es, ep, a, b, c, e, f, g⟩ := x; ⟨d, o, ys, es, ep, a, b, k _ _ c, e, f.le k, g⟩
/-- a fresh table of leaves -/
def DLf (prog : Program) (w : World) (kc : List (Int × Int)) : Heap → Value → Heap → Prop := fun h y h' => IsLf prog w h' y kc ∧ ∀ d, y = .ref d → h.get? d = none
theorem Dn.dlf {prog : Program} {w : World} {kc : List (Int × Int)} : Dn (DLf prog w kc) := fun k x => ⟨x.1, fun d e => none_of_le k (x.2 d e)⟩
theorem lfPut_take {ys : List LE} (nd : (ys.map (·.1)).Nodup) {i : Nat} {y : LE} (hy : ys[i]? = some y) : lfPut (ys.take i) y.1 y.2.1 y.2.2.1 y.2.2.2 = ys.take (i + 1) := by
  have hn : y.1 ∉ (ys.take i).map (·.1) := by
    intro hm
    obtain ⟨z, hz, e⟩ := List.mem_map.mp hm
    obtain ⟨j, hj⟩ := List.mem_iff_getElem?.mp hz
    rw [List.getElem?_take] at hj
    split at hj
    · rename_i hji
      have e1 : (ys.map (·.1))[j]? = some y.1 := by rw [List.getElem?_map, hj]; simp [e]
      have e2 : (ys.map (·.1))[i]? = some y.1 := by rw [List.getElem?_map, hy]; rfl
      have hlt : j < (ys.map (·.1)).length := (List.getElem?_eq_some_iff.mp e1).1
      have := (List.getElem?_inj hlt nd).mp (e1.trans e2.symm)
      omega
    · cases hj
  unfold lfPut
  rw [if_neg hn, List.take_add_one, hy]
  rfl
theorem isT {prog : Program} {w : World} {A : Around} {h₀ : Heap} {env : Env} {e : Expr} {b : Bool} (x : Ev prog w A h₀ (eval e env) (BT b))
    (ht : ∀ whole, isTrue e env whole = (do let v ← whole; standAt e.pos; holding [v] (truthy v)) := by intro _; rfl) : Ev prog w A h₀ (isTrue e env (eval e env)) (fun _ c _ => c = b) := by
  intro r h tk Q E k q
  refine wpAny_isTrue_value (x r h tk _ E k fun v h₁ t₁ k₁ f₁ => ?_) (ht _)
  rw [show v = .bool b from f₁]
  exact wpAny_truthy_bool (q _ h₁ t₁ k₁ rfl)
theorem add_spec {prog : Program} {w : World} {A : Around} {h₀ : Heap} (hh : A.handled = none) (hroom : A.depth < recursionLimit) (hu : A.units + 100 < cLine) (B : Bs w h₀) {u v : Value} {kc : List (Int × Int)} {n c : Int} (hT : IsLf prog w h₀ u kc) (hS : IsLf prog w h₀ v [(n, c)]) (hz : kc.length ≤ 2 ^ 10) :
    Ev prog w A h₀ (call (.ref 28) [u, v]) (DLf prog w (addC kc n c)) := by
  obtain ⟨dT, oT, ysT, esT, epT, rfl, loT, hgT, xT, kT, rfl⟩ := hT
  obtain ⟨dS, oS, ysS, esS, epS, rfl, loS, hgS, xS, kS, hcS⟩ := hS
  have hzT : ysT.length ≤ 2 ^ 10 := by simpa [lfC] using hz
  obtain ⟨aS, tS, rfl⟩ : ∃ aS tS, ysS = [(n, aS, c, tS)] := by
    match ysS, hcS with
    | [(n', a, c', t)], e =>
      simp only [lfC, List.map_cons, List.map_nil, List.cons.injEq, Prod.mk.injEq, and_true] at e
      obtain ⟨rfl, rfl⟩ := e
      exact ⟨a, t, rfl⟩
  refine Ev.fn (binds := [("target", .ref dT), ("source", .ref dS)]) hroom B (B.1 28 _ rfl) rfl (codeRec_of B.1 rfl) rfl rfl rfl ?_ ?_
  · intro n x hx
    simp only [List.mem_cons, List.not_mem_nil, or_false] at hx
    rcases hx with rfl | rfl
    · exact .inl rfl
    · exact .inl rfl
  · intro r h hl0 h₁ tk F C
    have k : Le h h₁ := F.keep
    have W₀ := Ws.start F
    have hLT : dT ≠ h.objs.size := fun e => Nat.lt_irrefl _ (by have := Heap.lt_size (hl0 _ _ hgT); rwa [e] at this)
    have hLS : dS ≠ h.objs.size := fun e => Nat.lt_irrefl _ (by have := Heap.lt_size (hl0 _ _ hgS); rwa [e] at this)
    refine wpAny_execs_cons (wpAny_Assign_Name (wpAny_Dict_empty ?_) rfl)
    have W₁ := W₀.add (Le.push h₁ ({ cls := .type "dict", data := .dict #[] } : Obj)) (fresh_size h₁) (Heap.get?_push_size _ rfl)
    have loN : (h₁.objs.size == sysModules) = false := size_lo (B.le (hl0.trans k))
    generalize hN : h₁.objs.size = dN at W₁ loN
    have x0 : LfO prog w ({ cls := .type "dict", data := .dict #[] } : Obj) [] #[] 0 := ⟨⟨rfl, rfl, rfl⟩, rfl, rfl, List.nodup_nil⟩
    refine stL W₁ rfl rfl rfl fun h₂ t₂ W₂ => ?_
    have W₂ := W₂.addT (vs := lfV []) (ds := lfT []) .nil
    refine wpAny_execs_cons ?_
    have hget : ∀ {m Φ T H}, Ws h h.objs.size H m Φ T → H.get? dT = some oT := fun W => W.keep _ _ (hl0 _ _ hgT)
    have hgetS : ∀ {m Φ T H}, Ws h h.objs.size H m Φ T → H.get? dS = some oS := fun W => W.keep _ _ (hl0 _ _ hgS)
    refine forItems (d := dT) (es := esT) (ep := epT) (fun i m Φ T => m "target" = some (.ref dT) ∧ m "source" = some (.ref dS) ∧ m "new_callers" = some (.ref dN) ∧ ∃ o es ep, Φ = [(dN, o)] ∧ LfO prog w o (ysT.take i) es ep ∧ T = [(lfV (ysT.take i), lfT (ysT.take i))]) hh W₂
      (Ev.name (.loc rfl rfl W₂.F.ns rfl)) loT rfl rfl rfl rfl (fun i m Φ T H _ W => xT.raw (hget W)) hLT ⟨rfl, rfl, rfl, _, _, _, rfl, x0, rfl⟩ ?_ ?_
    · rintro i e m Φ T H tk I oI ⟨hmT, hmS, hmN, o, es, ep, rfl, xo, rfl⟩ he W'
      obtain ⟨y, hy, ek, ev⟩ := xT.at he
      rw [ek, ev] at W'
      have hkey : DV H (.ref y.2.1) (lfD y.1) := by
        obtain ⟨v', hv', hd'⟩ := kT.at (i := i) (d := lfD y.1) (by simp [lfT, List.getElem?_map, hy])
        have : v' = .ref y.2.1 := by simp [lfV, List.getElem?_map, hy] at hv'; exact hv'.symm
        subst this
        exact hd'.le (hl0.trans W'.keep)
      refine wpAny_execs_cons (wpAny_Assign_Subscript (Ev.name (.loc rfl rfl W'.F.ns upd_eq) (by decide) r H tk _ _ (Le.refl _) fun v1 h₃ t₃ k₃ f₃ => Ev.name (NameIs.le (.loc rfl rfl W'.F.ns (upd_to (upd_to hmN (by decide)) (by decide))) k₃) (by decide) r h₃ t₃ _ _ (Le.refl _) fun v2 h₄ t₄ k₄ f₄ =>
        Ev.name (NameIs.le (.loc rfl rfl W'.F.ns (upd_to upd_eq (by decide))) (k₃.trans k₄)) (by decide) r h₄ t₄ _ _ (Le.refl _) fun v3 h₅ t₅ k₅ f₅ => ?_) rfl)
      have e1 : v1 = .int y.2.2.1 y.2.2.2 := f₃
      have e2 : v2 = .ref dN := f₄
      have e3 : v3 = .ref y.2.1 := f₅
      subst e1 e2 e3
      have kk := k₃.trans (k₄.trans k₅)
      have W₅ := W'.le kk
      refine lfSet (n := y.1) (show A.units + 3 + 64 < cLine by omega) W₅ 1 rfl xo (by simp; omega) (W₅.dvs 0) (hkey.le kk) fun h₆ t₆ o' es' ep' x' k' _ W₆ => ?_
      rw [lfPut_take xT.2.2.2 hy] at x' k'
      refine wpAny_execs_nil ⟨_, _, _, _, _, rfl, ⟨upd_to (upd_to hmT (by decide)) (by decide), upd_to (upd_to hmS (by decide)) (by decide), upd_to (upd_to hmN (by decide)) (by decide), o', es', ep', rfl, x', rfl⟩, (W₆.addT k').sub (List.Sublist.refl _) fun p hp => by rw [List.mem_singleton] at hp; subst hp; exact .head _⟩
    · rintro m Φ T H tk ⟨hmT, hmS, hmN, o, es, ep, rfl, xo, rfl⟩ W'
      rw [xT.size, List.take_length] at xo W'
      have nS : esS.size = 1 := xS.size
      have keyA : DV h₀ (.ref aS) (lfD n) := by
        cases kS with | cons a _ => exact a
      refine wpAny_execs_cons ?_
      refine forItems (d := dS) (es := esS) (ep := epS) (fun i m Φ T => m "new_callers" = some (.ref dN) ∧ ∃ o ys es ep, Φ = [(dN, o)] ∧ LfO prog w o ys es ep ∧ T = [(lfV ys, lfT ys)] ∧ lfC ys = (if i = 0 then lfC ysT else addC (lfC ysT) n c)) hh W'
        (Ev.name (.loc rfl rfl W'.F.ns hmS)) loS rfl rfl rfl rfl (fun i m Φ T H _ W => xS.raw (hgetS W)) hLS ⟨hmN, o, ysT, es, ep, rfl, xo, rfl, rfl⟩ ?_ ?_
      · clear hmT hmS hmN xo W'
        rintro i e m Φ T H tk I oI ⟨hmN, o, ys, es, ep, rfl, xo, rfl, hc⟩ he W'
        have hi : i < 1 := by have := (Array.getElem?_eq_some_iff.mp he).1; omega
        have hi0 : i = 0 := by omega
        subst hi0
        obtain ⟨y, hy, ek, ev⟩ := xS.at he
        simp only [List.getElem?_cons_zero, Option.some.injEq] at hy
        subst hy
        rw [ek, ev] at W'
        rw [if_pos rfl] at hc
        have hzy : ys.length ≤ 2 ^ 10 := by
          have := congrArg List.length hc
          simp only [lfC, List.length_map] at this
          omega
        have hkey : DV H (.ref aS) (lfD n) := keyA.le (hl0.trans W'.keep)
        have hkeys : ys.map (·.1) = (lfC ysT).map (·.1) := by rw [← lfC_keys, hc]
        have hfind : (lfC ys).find? (fun y => decide (y.1 = n)) = (ys.find? fun y => decide (y.1 = n)).map fun y => (y.1, y.2.2.1) := by
          unfold lfC; rw [List.find?_map]; rfl
        refine wpAny_execs_cons (wpAny_If ?_)
        refine Ev.isCmp (c := decide (n ∈ ys.map (·.1))) (φ := VE (.ref aS)) (ψ := VE (.ref dN)) (Ev.name (.loc rfl rfl W'.F.ns (upd_to upd_eq (by decide)))) (Ev.name (.loc rfl rfl W'.F.ns (upd_to (upd_to hmN (by decide)) (by decide)))) ?_ (by with_unfolding_all rfl) r H tk _ _ (Le.refl _) ?_
        · intro h a h₈ b h₉ k₈ k₉ k₁₀ e₁ e₂
          subst e₁ e₂
          have W₉ := W'.le (k₈.trans (k₉.trans k₁₀))
          exact lfIn (show A.units + 3 + 64 < cLine by omega) (W₉.get 1) xo (W₉.dvs 0) loN (keyA.le (hl0.trans W₉.keep)) (by rw [decide_eq_true_iff])
        · intro b H₂ t₂ k₂ e₂
          subst e₂
          have W₂ := W'.le k₂
          by_cases hm : n ∈ ys.map (·.1)
          · rw [decide_eq_true hm]
            simp only [if_true]
            have h1 := find_key ys n
            rw [decide_eq_true hm] at h1
            obtain ⟨y0, hy0⟩ := Option.isSome_iff_exists.mp h1
            refine wpAny_execs_cons (wpAny_If ?_)
            refine isT (b := false) (Ev.call2 (f := .builtin "isinstance") (φ := DT (.int c)) (ψ := VE (.type "tuple")) (Ev.boot (B.le (hl0.trans W₂.keep)) rfl rfl (by decide) rfl rfl rfl rfl) (fun _ _ => keeps_builtin _) (Ev.dname (.loc rfl rfl W₂.F.ns upd_eq) (.int c tS)) (Ev.boot (B.le (hl0.trans W₂.keep)) rfl rfl (by decide) rfl rfl rfl rfl) ?_ Dn.bt) (by intro _; rfl) r H₂ t₂ _ _ (Le.refl _) ?_
            · intro h a h₁ b h₂ k₀ k₁ k₂ f₁ f₂
              cases f₁
              subst f₂
              exact fun r h tk Q E k q => IsiPair.int_tuple (q _ h _ (Le.refl _) rfl)
            · intro b H₃ t₃ k₃ e₃
              subst e₃
              have W₃ := W₂.le k₃
              simp only [Bool.false_eq_true, if_false]
              refine wpAny_execs_cons (wpAny_AugAssign_Subscript (Ev.name (.loc rfl rfl W₃.F.ns (upd_to (upd_to hmN (by decide)) (by decide))) (by decide) r H₃ t₃ _ _ (Le.refl _) fun v1 h₃ t₃ k₃ f₃ =>
                Ev.name (NameIs.le (.loc rfl rfl W₃.F.ns (upd_to upd_eq (by decide))) k₃) (by decide) r h₃ t₃ _ _ (Le.refl _) fun v2 h₄ t₄ k₄ f₄ => ?_))
              have e1 : v1 = .ref dN := f₃
              have e2 : v2 = .ref aS := f₄
              subst e1 e2
              have W₄ := W₃.le (k₃.trans k₄)
              have hk4 : DV h₄ (.ref aS) (lfD n) := keyA.le (hl0.trans W₄.keep)
              refine wpAny_getItem_heap (knd := lfKind prog w) (p := (y0.2.1, .int y0.2.2.1 y0.2.2.2)) (show A.units + 3 + 1 < cLine by omega) (lf_is hk4) (xo.dictOf (W₄.get 1) (W₄.dvs 0)) (by rw [atKey_lf, hy0]; rfl) ?_
              refine Ev.name (.loc rfl rfl W₄.F.ns upd_eq) (by decide) r h₄ _ _ _ (Le.refl _) fun v3 h₅ t₅ k₅ f₅ => ?_
              have e3 : v3 = .int c tS := f₅
              subst e3
              have W₅ := W₄.le k₅
              refine AutoIntOps.iadd_0 ?_
              refine lfSet (n := n) (c := y0.2.2.1 + c) (show A.units + 3 + 64 < cLine by omega) W₅ 1 rfl xo (by omega) (W₅.dvs 0) (hk4.le k₅) fun h₆ t₆ o' es' ep' x' k' _ W₆ => ?_
              refine wpAny_execs_nil (wpAny_execs_nil (wpAny_execs_nil ⟨_, _, _, _, _, rfl, ⟨upd_to (upd_to hmN (by decide)) (by decide), o', _, es', ep', rfl, x', rfl, ?_⟩, (W₆.addT k').sub (List.Sublist.refl _) fun p hp => by rw [List.mem_singleton] at hp; subst hp; exact .head _⟩))
              rw [if_neg (by decide), lfC_put, ← hc]
              unfold addC
              rw [hfind, hy0]
              rfl
          · rw [decide_eq_false hm]
            simp only [Bool.false_eq_true, if_false]
            have h1 := find_key ys n
            rw [decide_eq_false hm] at h1
            have hy0 : (ys.find? fun y => decide (y.1 = n)) = none := by
              cases hq : ys.find? fun y => decide (y.1 = n) with
              | none => rfl
              | some y => rw [hq] at h1; cases h1
            refine wpAny_execs_cons (wpAny_Assign_Subscript (Ev.name (.loc rfl rfl W₂.F.ns upd_eq) (by decide) r H₂ t₂ _ _ (Le.refl _) fun v1 h₃ t₃ k₃ f₃ => Ev.name (NameIs.le (.loc rfl rfl W₂.F.ns (upd_to (upd_to hmN (by decide)) (by decide))) k₃) (by decide) r h₃ t₃ _ _ (Le.refl _) fun v2 h₄ t₄ k₄ f₄ =>
              Ev.name (NameIs.le (.loc rfl rfl W₂.F.ns (upd_to upd_eq (by decide))) (k₃.trans k₄)) (by decide) r h₄ t₄ _ _ (Le.refl _) fun v3 h₅ t₅ k₅ f₅ => ?_) rfl)
            have e1 : v1 = .int c tS := f₃
            have e2 : v2 = .ref dN := f₄
            have e3 : v3 = .ref aS := f₅
            subst e1 e2 e3
            have W₅ := W₂.le (k₃.trans (k₄.trans k₅))
            refine lfSet (n := n) (c := c) (show A.units + 3 + 64 < cLine by omega) W₅ 1 rfl xo (by omega) (W₅.dvs 0) (keyA.le (hl0.trans W₅.keep)) fun h₆ t₆ o' es' ep' x' k' _ W₆ => ?_
            refine wpAny_execs_nil (wpAny_execs_nil ⟨_, _, _, _, _, rfl, ⟨upd_to (upd_to hmN (by decide)) (by decide), o', _, es', ep', rfl, x', rfl, ?_⟩, (W₆.addT k').sub (List.Sublist.refl _) fun p hp => by rw [List.mem_singleton] at hp; subst hp; exact .head _⟩)
            rw [if_neg (by decide), lfC_put, ← hc]
            unfold addC
            rw [hfind, hy0]
            rfl
      · rintro m Φ T H tk ⟨hmN, o, ys, es, ep, rfl, xo, rfl, hc⟩ W'
        rw [nS, if_neg (by decide)] at hc
        refine wpAny_execs_cons (wpAny_Return_some (Ev.name (.loc rfl rfl W'.F.ns hmN) (by decide) r H tk _ _ (Le.refl _) fun v h' tk' k' e => ?_))
        have W₂ := W'.le k'
        exact ⟨v, h', tk', rfl, rfl, W₂.keep, ⟨dN, o, ys, es, ep, e, loN, W₂.get 0, xo, W₂.dvs 0, hc⟩, fun d e' => by
          rw [show v = .ref dN from e] at e'
          cases e'
          exact (W₂.N _ (.head _)).2.2⟩
end Mine

end
section
set_option maxRecDepth 100000
namespace Mine
open PySem PySem.W PySem.Calls PyProof.Rows
def sumC (kc : List (Int × Int)) : Int := kc.foldl (fun a y => a + y.2) 0
theorem count_spec {prog : Program} {w : World} {A : Around} {h₀ : Heap} (hh : A.handled = none) (hroom : A.depth < recursionLimit) (B : Bs w h₀) {u : Value} {kc : List (Int × Int)} (hT : IsLf prog w h₀ u kc) :
    Ev prog w A h₀ (call (.ref 35) [u]) (DT (.int (sumC kc))) := by
  obtain ⟨dT, oT, ysT, esT, epT, rfl, loT, hgT, xT, kT, rfl⟩ := hT
  refine Ev.fn (binds := [("callers", .ref dT)]) hroom B (B.1 35 _ rfl) rfl (codeRec_of B.1 rfl) rfl rfl rfl ?_ ?_
  · intro n x hx
    simp only [List.mem_cons, List.not_mem_nil, or_false] at hx
    subst hx
    exact .inl rfl
  · intro r h hl0 h₁ tk F C
    have k : Le h h₁ := F.keep
    have W₀ := Ws.start F
    have hget : ∀ {m Φ T H}, Ws h h.objs.size H m Φ T → H.get? dT = some oT := fun W => W.keep _ _ (hl0 _ _ hgT)
    refine asg1 (φ := DT (.int 0)) W₀ rfl rfl rfl Ev.cint ?_
    intro v h₂ k₂ f₂
    cases f₂ with | int _ t0 =>
    refine ⟨_, _, W₀.le k₂, fun h₃ t₃ W₃ => ?_⟩
    refine wpAny_execs_cons ?_
    refine forValues (d := dT) (es := esT) (ep := epT) (fun i m Φ T => m "callers" = some (.ref dT) ∧ (∃ t, m "nc" = some (.int (((lfC ysT).take i).foldl (fun a y => a + y.2) 0) t)) ∧ Φ = [] ∧ T = []) hh W₃
      (Ev.name (.loc rfl rfl W₃.F.ns rfl)) loT rfl rfl rfl (fun i m Φ T H _ W => xT.raw (hget W)) ⟨rfl, ⟨t0, rfl⟩, rfl, rfl⟩ ?_ ?_
    · rintro i e m Φ T H tk I oI ⟨hmC, ⟨t, hmN⟩, rfl, rfl⟩ he W'
      obtain ⟨y, hy, ek, ev⟩ := xT.at he
      rw [ev] at W'
      refine wpAny_execs_cons (wpAny_AugAssign_Name (wpAny_loadName_local rfl rfl W'.F.ns (upd_to hmN (by decide)) ?_))
      refine Ev.name (.loc rfl rfl W'.F.ns upd_eq) (by decide) r H tk _ _ (Le.refl _) fun v1 h₄ t₄ k₄ f₄ => ?_
      have e1 : v1 = .int y.2.2.1 y.2.2.2 := f₄
      subst e1
      have W₄ := W'.le k₄
      refine AutoIntOps.iadd_0 ?_
      refine stL W₄ rfl rfl rfl fun h₅ t₅ W₅ => wpAny_execs_nil ⟨_, _, _, _, _, rfl, ⟨upd_to (upd_to hmC (by decide)) (by decide), ⟨t₄, ?_⟩, rfl, rfl⟩, W₅⟩
      have e2 : (lfC ysT).take (i + 1) = (lfC ysT).take i ++ [(y.1, y.2.2.1)] := by
        rw [List.take_add_one]
        simp [lfC, List.getElem?_map, hy]
      rw [e2, List.foldl_append]
      exact upd_eq
    · rintro m Φ T H tk ⟨hmC, ⟨t, hmN⟩, rfl, rfl⟩ W'
      have e1 : (lfC ysT).take esT.size = lfC ysT := List.take_of_length_le (by rw [xT.size]; simp [lfC])
      rw [e1] at hmN
      exact retE W'.keep (Ev.dname (.loc rfl rfl W'.F.ns hmN) (.int _ t)) Dn.dt
end Mine

end
section
set_option maxRecDepth 100000
namespace Mine
open PySem PySem.W PySem.Calls PyProof.Rows
theorem list_no_keys : typeLookup (.type "list") "keys" = Pure.pure none := by rw [typeLookup_type, builtinLookup_eq_fast]; kernel_rfl
theorem entry_dul : entryFor table "dict.update.loop" = some Builtin.«dict.update.loop» := by first | exact entryFor_of_fast (by kernel_rfl) | exact entryFor_of_tree (by kernel_rfl)
theorem plain_dul : plainId "dict.update.loop" = true := by decide +kernel
section
variable {prog : Program} {w : World} {A : Around} {E : Value → Shared → Prop} {s : Shared}
theorem list_keys_miss {a : Addr} {xs : Array Value} {k : Nat} {Q : Option Value → Shared → Prop} (hx : s.heap.get? a = some (PySem.W.listOf xs k)) (hA : A.handled = none)
    (h : ∀ h' tk, Le s.heap h' → Q none { s with heap := h', toks := tk }) : wpAny (model prog w) A (getAttr? (.ref a) "keys") Q E s := by
  obtain ⟨hp, g, d, tk, os⟩ := s
  have hT : ∀ tk', (⟨hp, g, d, tk', os⟩ : Shared).TypeIs (.ref a) "list" := fun _ => ⟨_, hx, rfl⟩
  have f1 := sub_AttributeError
  have f3 := F.slot_list_getattribute.lookup
  have f4 := F.slot_list_getattribute.bind (.ref a)
  have f5 := am_list_getattr_none
  unfold getAttr? getAttrBy? getAttrBy
  repeat (any_goals (first | assumption | exact hT _ | ((with_reducible show wpAny _ _ (call (Value.builtin "list.__getattribute__") _ _) _ _ _); refine call_meets F.slot_list_getattribute (hT _) am_entry_list_getattribute (F.args_list_getattribute_2 _ _) (meets_getattribute_miss_list a xs k _ _ _ list_no_keys (by decide)) ⟨hx, hA, fun h' tk' e hx' => ?_⟩) | wp_step))
  obtain ⟨t', u', he⟩ := hx'.there
  show wpAny _ _ (getattributeRaised _ _ _ _ _ _ _) _ _ _
  unfold getattributeRaised
  repeat (any_goals (first | assumption | wp_step))
  exact h _ _ hx'.keeps
/-- the pairs stored one behind another -/
def pairsD (ps : List (Int × Dt)) : List Dt := ps.map fun p => .tup [.int p.1, p.2]
def keysOf (ps : List Int) : List Int := ps.foldl (fun acc k => if k ∈ acc then acc else acc ++ [k]) []
theorem keysOf_snoc (ps : List Int) (k : Int) : keysOf (ps ++ [k]) = if k ∈ keysOf ps then keysOf ps else keysOf ps ++ [k] := by
  unfold keysOf; rw [List.foldl_append]; rfl
theorem keysOf_len (l : List Int) : (keysOf l).length ≤ l.length := by
  have key : ∀ (l acc : List Int), (l.foldl (fun acc k => if k ∈ acc then acc else acc ++ [k]) acc).length ≤ acc.length + l.length := by
    intro l
    induction l with
    | nil => intro acc; exact Nat.le_refl _
    | cons k l ih =>
      intro acc
      rw [List.foldl_cons, List.length_cons]
      refine Nat.le_trans (ih _) ?_
      split
      · omega
      · simp; omega
  have h := key l []
  unfold keysOf
  simpa using h
/-- a table of numbers: which keys it has -/
def KO (prog : Program) (w : World) (o : Obj) (ks : List Int) : Prop := ∃ kvs, o.IsDictOf (PySem.intKind prog w) kvs ∧ kvs.map (·.1) = ks
theorem stored_keys {K : Type} [DecidableEq K] (kvs : List (K × Value)) (k : K) (v : Value) : (stored kvs k v).map (·.1) = if k ∈ kvs.map (·.1) then kvs.map (·.1) else kvs.map (·.1) ++ [k] := by
  by_cases h : k ∈ kvs.map (·.1)
  · rw [if_pos h]
    unfold stored
    rw [if_pos (by obtain ⟨x, hx, e⟩ := List.mem_map.mp h; exact List.any_eq_true.mpr ⟨x, hx, decide_eq_true e⟩)]
    exact keys_map_store kvs k v
  · rw [if_neg h, stored_new h, List.map_append]; rfl
theorem dul_loop {R : Result → Shared → Prop} {l I D : Addr} {vs : List Value} {ks : List Int} {ds : List Dt} {res : Value} (hh : A.handled = none) (hz : ks.length ≤ 2 ^ 20) (hID : I ≠ D) (hlI : l ≠ I) (hlD : l ≠ D)
    (hd : ds = ks.map fun k => .tup [.int k, .int 1]) :
    ∀ (n i : Nat) (s : Shared) (o : Obj) (c : Int) (tc : Tok), ks.length - i = n → i ≤ ks.length → s.heap.IsList l vs.toArray → s.heap.IsListIter I l i → s.heap.get? D = some o → KO prog w o (keysOf (ks.take i)) → DVs s.heap vs ds →
      (∀ h' k' o', (∀ b ob, b ≠ I → b ≠ D → s.heap.get? b = some ob → h'.get? b = some ob) → h'.get? D = some o' → KO prog w o' (keysOf ks) → R (.ok (.ret res)) { s with heap := h', toks := k' }) →
      codeAny (model prog w) A (.builtin "dict.update.loop" ⟨[.ref D, .ref I, .int c tc, res], []⟩) R s := by
  intro n
  induction n with
  | zero =>
    intro i s o c tc hn hle hl hit hD hK hds hR
    have hin : i = ks.length := by omega
    subst hin
    have hvl : vs.length = ks.length := by rw [hds.length, hd, List.length_map]
    refine codeAny_builtin entry_dul ?_
    rw [Around.under_plainId plain_dul _]
    unfold Builtin.«dict.update.loop»
    refine wpAny_bind (wpAny_pyNext_list_end hh hit hl (by simp [hvl]) fun h' he => ?_)
    show wpAny _ _ (Builtin.Dict.addKeywords D [] >>= _) _ _ _
    refine wpAny_bind (wpAny_pure (wpAny_pure ?_))
    rw [List.take_length] at hK
    exact hR h' _ o (fun b ob hbI _ e => he b ob hbI e) (he D o (Ne.symm hID) hD) hK
  | succ n ih =>
    intro i s o c tc hn hle hl hit hD hK hds hR
    have hlt : i < ks.length := by omega
    have hvl : vs.length = ks.length := by rw [hds.length, hd, List.length_map]
    obtain ⟨kk, hkk⟩ : ∃ kk, ks[i]? = some kk := ⟨_, List.getElem?_eq_getElem hlt⟩
    obtain ⟨x, hx, hxd⟩ := hds.at (i := i) (d := .tup [.int kk, .int 1]) (by rw [hd, List.getElem?_map, hkk]; rfl)
    cases hxd with
    | tup ha hd2 =>
    rename_i ta us
    refine codeAny_builtin entry_dul ?_
    rw [Around.under_plainId plain_dul _]
    unfold Builtin.«dict.update.loop»
    refine wpAny_bind (wpAny_pyNext_list_item (x := .ref ta) hit hl (by simpa using hx) fun h' hit' hs => ?_)
    have tk1 : TK s.heap h' := TK.but hs.extBut fun o₁ xs n e c q => by
      obtain ⟨oi, ei, ci, di⟩ := hit
      rw [ei] at e; cases e; rw [di] at q; cases q
    have ha' := Mine.IsTup.tk ha tk1
    have hds' := hds.tk tk1
    have hd2' := hd2.tk tk1
    obtain ⟨ot, et, ct, nt, dt⟩ := id ha'
    have hTt : Shared.TypeIs { s with heap := h' } (.ref ta) "tuple" := ⟨ot, et, ct⟩
    have hD' : h'.get? D = some o := (hs.2 D (Ne.symm hID)).trans hD
    obtain ⟨kvs, hdk, hks⟩ := hK
    dsimp only
    with_reducible refine wpAny_bind ?_
    with_reducible refine wpAny_holding ?_
    with_reducible refine wpAny_bind ?_
    refine wpAny_tryCatch ?_
    unfold Builtin.Dict.pairItems
    refine wpAny_bind (wpAny_typeOf hTt ?_)
    refine bm_if_true (by decide) ?_
    refine wpAny_bind (wpAny_seqItems et dt ?_)
    refine wpAny_pure ?_
    cases hd2' with | cons h1 hd2' =>
    cases hd2' with | cons h2 hd2' =>
    cases hd2'
    cases h1 with | int _ t1 =>
    cases h2 with | int _ t2 =>
    dsimp only [Option.getD_some]
    have hkl : kvs.length ≤ 2 ^ 20 := by
      have h1 : kvs.length = (keysOf (ks.take i)).length := by rw [← hks, List.length_map]
      have h2 := keysOf_len
      have := h2 (ks.take i)
      simp only [List.length_take] at this
      omega
    refine wpAny_holding (wpAny_dictSet_pairs (knd := PySem.intKind prog w) (k := kk) (by simp [PySem.intKind, Value.isInt]) (Heap.dictOf_iff.mpr ⟨o, hD', hdk⟩) (fun h₂ hd₂ hs₂ => ?_) (size_le_of (by simpa using hkl)))
    obtain ⟨o₂, ho₂, hdk₂⟩ := Heap.dictOf_iff.mp hd₂
    have hs2 : Heap.SameBut D h' h₂ := hs₂
    have tk2 : TK h' h₂ := TK.but hs2.extBut fun o₁ xs n e c q => by
      rw [hD'] at e; cases e
      obtain ⟨es, ep, ⟨c', _⟩, _⟩ := hdk
      rw [c'] at c; injection c with c; exact absurd c (by decide)
    have e2 : ks.take (i + 1) = ks.take i ++ [kk] := by rw [List.take_add_one, hkk]; rfl
    refine wpAny_pure ⟨plainId_quiet plain_dul _, ih (i + 1) _ o₂ (c + 1) 0 (by omega) hlt ((hl.extBut hs.extBut hlI).extBut hs2.extBut hlD) (hit'.extBut hs2.extBut hID) ho₂ ⟨_, hdk₂, ?_⟩ (hds'.tk tk2) fun h₃ k₃ o₃ hk₃ e₃ K₃ => ?_⟩
    · rw [stored_keys, hks, e2, keysOf_snoc]
    · exact hR h₃ k₃ o₃ (fun b ob hbI hbD e => hk₃ b ob hbI hbD (hs2.extBut b ob hbD (hs.extBut b ob hbI e))) e₃ K₃
end
section
variable {prog : Program} {w : World} {A : Around} {h₀ : Heap} {env : Env} {func e : Expr} {pos : Pos}
/-- a fresh table with these keys -/
def DK (prog : Program) (w : World) (ks : List Int) : Heap → Value → Heap → Prop := fun h y h' => ∃ d o, y = .ref d ∧ (d == sysModules) = false ∧ h.get? d = none ∧ h'.get? d = some o ∧ KO prog w o ks
theorem Dn.dk {ks : List Int} : Dn (DK prog w ks) := fun k ⟨d, o, a, lo, n, e, x⟩ => ⟨d, o, a, lo, none_of_le k n, e, x⟩
theorem callDictP {a : Addr} {vs : List Value} {k : Nat} {ks : List Int} (B : Bs w h₀) (hh : A.handled = none) (hl : h₀.get? a = some (PySem.W.listOf vs.toArray k)) (hd : DVs h₀ vs (ks.map fun k => .tup [.int k, .int 1])) (hz : ks.length ≤ 2 ^ 20) :
    Ev prog w A h₀ (call (.type "dict") [.ref a]) (DK prog w (keysOf ks)) := by
  intro r h tk Q E l q
  have lo : (h.objs.size == sysModules) = false := size_lo (B.le l)
  refine callType_codes (Q₁ := fun obj s₁ => obj = .ref h.objs.size ∧ s₁ = r.st (h.push { cls := .type "dict", data := .dict #[] }) tk) F.kt_called_dict (F.kt_typeCall_dict_1 _) F.entry_dict_init (kt_code_dict_new _ ⟨rfl, rfl⟩) ?_
  rintro obj s₁ ⟨rfl, rfl⟩
  have kp : Le h (h.push { cls := .type "dict", data := .dict #[] }) := Le.push _ _
  have hnew : (h.push { cls := .type "dict", data := .dict #[] }).get? h.objs.size = some { cls := .type "dict", data := .dict #[] } := Heap.get?_push_size _ rfl
  have hT : Shared.TypeIs (r.st (h.push { cls := .type "dict", data := .dict #[] }) tk) (.ref h.objs.size) "dict" := ⟨_, hnew, rfl⟩
  refine ⟨hT, F.args_dict_init_2 _ _, ?_⟩
  have hl1 := kp _ _ (l _ _ hl)
  have hTl : Shared.TypeIs (r.st (h.push { cls := .type "dict", data := .dict #[] }) tk) (.ref a) "list" := ⟨_, hl1, rfl⟩
  unfold Builtin.«dict.__init__»
  refine wpAny_bind ?_
  unfold Builtin.Dict.selfAndRest
  refine wpAny_bind (wpAny_notOrdered_dict hT ?_)
  show wpAny _ _ (Pure.pure (h.objs.size, [Value.ref a])) _ _ _
  refine wpAny_pure ?_
  show wpAny _ _ (Builtin.Dict.updateFrom "dict.__init__" h.objs.size (.ref a) [] .none) _ _ _
  unfold Builtin.Dict.updateFrom
  refine wpAny_bind (wpAny_typeOf hTl ?_)
  refine bm_if_true (by decide) ?_
  refine wpAny_bind (list_keys_miss hl1 hh fun h₂ t₂ k₂ => ?_)
  refine bm_if_true rfl ?_
  refine wpAny_bind (wpAny_rule ?_)
  have hl2 : h₂.get? a = some (PySem.W.listOf vs.toArray k) := k₂ _ _ hl1
  refine wpAny_bind (wpAny_pyIter_list (items := vs.toArray) ⟨_, hl2, rfl, _, rfl⟩ ?_)
  have hD2 := k₂ _ _ hnew
  have alt : a < h.objs.size := Heap.lt_size (l _ _ hl)
  have Dlt : h.objs.size < h₂.objs.size := Heap.lt_size hD2
  refine wpAny_pure ⟨plainId_quiet plain_dul _, dul_loop (prog := prog) (w := w) (A := A.in1) (ks := ks) (vs := vs) hh hz (Nat.ne_of_gt Dlt) (Nat.ne_of_lt (Nat.lt_trans alt Dlt)) (Nat.ne_of_lt alt) rfl ks.length 0 _ { cls := .type "dict", data := .dict #[] } 0 0 rfl (Nat.zero_le _)
    ⟨_, Heap.get?_push_of_some _ hl2, rfl, _, rfl⟩ ⟨_, Heap.get?_push_size _ rfl, rfl, rfl⟩ (Heap.get?_push_of_some _ hD2) ⟨[], ⟨#[], 0, ⟨rfl, rfl, rfl⟩, rfl, fun _ he => by simp at he, Pairs.nil, List.nodup_nil⟩, rfl⟩ (hd.le (l.trans (kp.trans (k₂.trans (Le.push _ _))))) fun h₃ k₃ o₃ hk₃ e₃ K₃ => ?_⟩
  refine ⟨rfl, q _ h₃ _ (fun b ob e => ?_) ⟨_, o₃, rfl, lo, fresh_size h, e₃, K₃⟩⟩
  have blt : b < h.objs.size := Heap.lt_size e
  exact hk₃ b ob (Nat.ne_of_lt (Nat.lt_trans blt Dlt)) (Nat.ne_of_lt blt) (Heap.get?_push_of_some _ (k₂ _ _ (kp _ _ e)))
theorem Ev.dictP {ks : List Int} (B : Bs w h₀) (hh : A.handled = none) (g : Ev prog w A h₀ (eval func env) (VE (.type "dict"))) (x : Ev prog w A h₀ (eval e env) (LT (ks.map fun k => .tup [.int k, .int 1]))) (hz : ks.length ≤ 2 ^ 20)
    (hs : starEach [e] env = [(false, eval e env)] := by rfl)
    (he : eval (.Call func [e] [] pos) env = (do callWith pos (← eval func env) [] (backTo pos (starEach [e] env)) (backToKw pos (keywordEach [] env))) := by rfl) : Ev prog w A h₀ (eval (.Call func [e] [] pos) env) (DK prog w (keysOf ks)) :=
  Ev.call1 g (fun _ _ => keeps_type _) x (fun h a h' k₁ k₂ ⟨b, vs, eb, _, ⟨c, hl⟩, hd⟩ => by
    subst eb
    exact (callDictP (B.le (k₁.trans k₂)) hh hl hd hz).mono fun h3 b h4 l1 _ f => Dn.dk (k₂.trans l1) f) Dn.dk hs he
end
end Mine

end
section
set_option maxRecDepth 100000
namespace Mine
open PySem PySem.W PySem.Calls PyProof.Rows
section
variable {prog : Program} {w : World} {A : Around} {h₀ : Heap} {env : Env} {func e e₁ e₂ e₃ : Expr} {pos : Pos}
theorem BinI.mul {a b : Int} (h : Builtin.Int.intBits a ≤ 64) : BinI prog w A .Mult a b (a * b) := fun _ _ _ _ _ q => PyProof.Rows.mul_int (q _ _) (IntMulOk.of_left h)
theorem BinI.pow {a b : Int} (h0 : 0 ≤ b) (hz : (Builtin.Int.intBits a : Int) * b ≤ 2 ^ 27) : BinI prog w A .Pow a b (a ^ b.toNat) := fun _ _ _ _ _ q => PyProof.Rows.pow_int h0 hz (q _ _)
theorem BinI.div {a b : Int} (h0 : b ≠ 0) (hp : Builtin.divisionGoesByPylong a b = false) : BinI prog w A .FloorDiv a b (a.fdiv b) := fun _ _ _ _ _ q => PyProof.Rows.floordiv_int h0 (q _ _) (.inl hp)
/-- a triple -/
theorem Ev.tup3 {n : Nat} {d₁ d₂ d₃ : Dt} (x : Ev prog w A h₀ (eval e₁ env) (DT d₁)) (y : Ev prog w A h₀ (eval e₂ env) (DT d₂)) (z : Ev prog w A h₀ (eval e₃ env) (DT d₃)) (hs : starEach [e₁, e₂, e₃] env = [(false, eval e₁ env), (false, eval e₂ env), (false, eval e₃ env)] := by rfl) : Ev prog w A h₀ (eval (.Tuple [e₁, e₂, e₃] n pos) env) (DT (.tup [d₁, d₂, d₃])) := by
  intro r h tk Q E k q
  refine Tuple_ ?_
  rw [hs]
  refine spliced_cons (x r h tk _ E k fun a h₁ t₁ k₁ f₁ => spliced_cons (y r h₁ t₁ _ E (k.trans k₁) fun b h₂ t₂ k₂ f₂ => spliced_cons (z r h₂ t₂ _ E (k.trans (k₁.trans k₂)) fun c h₃ t₃ k₃ f₃ => spliced_nil ?_)))
  unfold newTuple
  refine wpAny_newObj_type ?_ (by show (3 : Nat) ≤ sizeLine; rw [sizeLine_eq]; omega)
  have k₄ : Le h₃ (h₃.push { cls := .type "tuple", data := .seq [a, b, c].toArray }) := Le.push _ _
  exact q _ _ _ (k₁.trans (k₂.trans (k₃.trans k₄))) (.tup (vs := [a, b, c]) ⟨_, Heap.get?_push_size _ rfl, rfl, _, rfl⟩ (.cons (DV.le (k₂.trans (k₃.trans k₄)) f₁) (.cons (DV.le (k₃.trans k₄) f₂) (.cons (DV.le k₄ f₃) .nil))))
theorem Ev.sumL {l : List Int} (hh : A.handled = none) (g : Ev prog w A h₀ (eval func env) (VE (.builtin "sum"))) (x : Ev prog w A h₀ (eval e env) (LT (l.map Dt.int)))
    (hs : starEach [e] env = [(false, eval e env)] := by rfl)
    (he : eval (.Call func [e] [] pos) env = (do callWith pos (← eval func env) [] (backTo pos (starEach [e] env)) (backToKw pos (keywordEach [] env))) := by rfl) : Ev prog w A h₀ (eval (.Call func [e] [] pos) env) (DT (.int l.sum)) :=
  Ev.call1 g (fun _ _ => keeps_builtin _) x (fun h a h' _ _ ⟨b, vs, eb, _, hl, hd⟩ => by
    subst eb
    intro r h2 tk Q E k q
    have hi : IntsAre vs l := DVs.ints (h := h') hd
    obtain ⟨xs, hx⟩ := hi.allInts.items
    have hl' : h2.IsList b (intItems xs) := hx ▸ hl.isList.at fun o e => k _ o e
    refine sum_intListG hh hl' fun h3 tk3 t3 hk => ?_
    have e1 : l = xs.toList.map (·.1) := by
      rw [← nums_intItems, ← hx]
      exact (show numsOf vs.toArray.toList = l from hi.numsOf).symm
    have e2 : preSum (numAt xs) xs.size = l.sum := by
      rw [preSum_eq, List.take_of_length_le (by simp), e1]
    rw [e2]
    exact q _ h3 tk3 hk (.int _ _)) Dn.dt hs he
theorem neB {l m : List Nat} {u v : Value} {b : Bool} (hu : DV h₀ u (.bts l)) (hv : DV h₀ v (.bts m)) (hb : b = true ↔ l = m) : Ev prog w A h₀ (compareOp .NotEq u v) (BT (!b)) := by
  cases hu with | bts _ t h1 =>
  cases hv with | bts _ t2 h2 =>
  intro r h tk Q E k q
  refine ne_bytes ?_
  have e : ((mkB l).toList != (mkB m).toList) = !b := by
    rw [bne, show ((mkB l).toList == (mkB m).toList) = b from ?_]
    rw [Bool.eq_iff_iff, hb, beq_iff_eq]
    constructor
    · intro q2; exact bk_inj h1 h2 (by simpa [mkB, bk] using q2)
    · rintro rfl; rfl
  rw [e]
  exact q _ h _ (Le.refl _) rfl
/-- a or b, both no -/
theorem orNo {a b : Expr} (x : Ev prog w A h₀ (isTrue a env (eval a env)) (fun _ c _ => c = false)) (y : Ev prog w A h₀ (isTrue b env (eval b env)) (fun _ c _ => c = false)) {whole : Sem Value} : Ev prog w A h₀ (isTrue (.BoolOp .Or [a, b] pos) env whole) (fun _ c _ => c = false) := by
  intro r h tk Q E k q
  refine wpAny_isTrue_BoolOp (wpAny_allTrue_Or_cons (x r h tk _ E k fun c h₁ t₁ k₁ f₁ => ?_))
  subst f₁
  simp only [Bool.false_eq_true, if_false]
  refine wpAny_allTrue_Or_cons (y r h₁ t₁ _ E (k.trans k₁) fun c h₂ t₂ k₂ f₂ => ?_)
  subst f₂
  simp only [Bool.false_eq_true, if_false]
  exact wpAny_allTrue_Or_nil (q _ h₂ t₂ (k₁.trans k₂) rfl)
/-- {('leaves', n, 'of'): c} -/
theorem Ev.dictLf {n c : Int} (B : Bs w h₀) (hu : A.units + 64 < cLine) (x : Ev prog w A h₀ (eval e₁ env) (DT (lfD n))) (y : Ev prog w A h₀ (eval e₂ env) (DT (.int c))) : Ev prog w A h₀ (eval (.Dict [some e₁] [e₂] pos) env) (DLf prog w [(n, c)]) := by
  intro r h tk Q E l q
  have kp : Le h (h.push { cls := .type "dict", data := .dict #[] }) := Le.push _ _
  refine wpAny_Dict_any rfl rfl (by simp) (by simp) ?_
  refine pairTrees_cons_walk (x r _ tk _ E (l.trans kp) fun a h₁ t₁ k₁ f₁ => y r h₁ t₁ _ E (l.trans (kp.trans k₁)) fun b h₂ t₂ k₂ f₂ => pairTrees_nil_walk ?_)
  have hD2 := k₂ _ _ (k₁ _ _ (Heap.get?_push_size h (o := ({ cls := .type "dict", data := .dict #[] } : Obj)) rfl))
  have f1 := DV.le k₂ f₁
  cases f₂ with | int _ tc =>
  obtain ⟨ta, rfl⟩ : ∃ ta, a = .ref ta := by cases f₁; exact ⟨_, rfl⟩
  have x0 : LfO prog w ({ cls := .type "dict", data := .dict #[] } : Obj) [] #[] 0 := ⟨⟨rfl, rfl, rfl⟩, rfl, rfl, List.nodup_nil⟩
  unfold storeAll
  rw [List.forIn_cons]
  refine wpAny_bind (wpAny_bind (wpAny_dictSet_heap (knd := lfKind prog w) (k := lfK n) (hsz := Nat.zero_le _) (show A.units < cLine by omega) (lf_is f1) (x0.dictOf hD2 .nil) fun h₃ hd₃ hs₃ => wpAny_pure ?_))
  dsimp only
  rw [List.forIn_nil]
  refine wpAny_pure ?_
  have hd2 : h₃.DictOfH (lfKind prog w) h.objs.size (storedH (lfX []) (lfK n) ta (.int c tc)) := hd₃
  rw [storedH_lf] at hd2
  obtain ⟨o', es', ep', e', x'⟩ := LfO.of hd2
  have t3 : TK h₂ h₃ := TK.but hs₃.extBut fun o₁ xs k' e₁ c' z => by rw [hD2] at e₁; cases e₁; cases z
  have kk : Le h h₃ := fun b o e => (hs₃.2 b (Nat.ne_of_lt (Heap.lt_size e))).trans (k₂ _ _ (k₁ _ _ (kp _ _ e)))
  refine q _ h₃ _ kk ⟨⟨_, o', _, es', ep', rfl, size_lo (B.le l), e', x', (lf_dvs .nil f1).tk t3, rfl⟩, fun d e => ?_⟩
  cases e
  exact fresh_size h
theorem callLenK {d : Addr} {o : Obj} {ks : List Int} (ho : h₀.get? d = some o) (lo : (d == sysModules) = false) (x : KO prog w o ks) (hz : ks.length ≤ 2 ^ 20) : Ev prog w A h₀ (call (.builtin "len") [.ref d]) (DT (.int ks.length)) := by
  intro r h tk Q E k q
  obtain ⟨kvs, hd, rfl⟩ := x
  have hl : (kvs.length : Int) < 2 ^ 63 := by simp only [List.length_map] at hz; omega
  have e := call_len_dict (knd := PySem.intKind prog w) (A := A) (E := E) (Q := Q) (s := r.st h tk) lo (Heap.dictOf_iff.mpr ⟨o, k _ _ ho, hd⟩) hl
  refine e ?_
  have q' := q (.int kvs.length (tk + 1)) h (tk + 1 + 1) (Le.refl _) (by rw [List.length_map]; exact .int _ _)
  exact q'
/-- a and b, both yes -/
theorem andYes {a b : Expr} (x : Ev prog w A h₀ (eval a env) (BT true)) (y : Ev prog w A h₀ (eval b env) (BT true)) : Ev prog w A h₀ (eval (.BoolOp .And [a, b] pos) env) (BT true) := by
  intro r h tk Q E k q
  refine BoolOp_and (x r h tk _ E k fun v h₁ t₁ k₁ f₁ => ?_)
  rw [show v = .bool true from f₁]
  refine wpAny_truthy_bool ?_
  simp only [if_true]
  exact BoolOp_one (y r h₁ t₁ _ E (k.trans k₁) fun u h₂ t₂ k₂ f₂ => q u h₂ t₂ (k₁.trans k₂) f₂)
end
end Mine

end
section
set_option maxRecDepth 100000
namespace Mine
open PySem PySem.W PySem.Calls PyProof.Rows
section
variable {prog : Program} {w : World} {A : Around} {h₀ : Heap} {env : Env}
/-- [elt for a, b in d.items()] -/
theorem Ev.compItems {elt eo : Expr} {a b : Str} {pa pb tp apos cpos pos : Pos} {kk : Nat} {scope : Scope} {cl : List (Str × Addr)} {d : Addr} {es : Array DictEntry} {ep : Nat} (f : Nat → Dt) (hh : A.handled = none)
    (ho : Ev prog w A h₀ (eval eo env) (VE (.ref d))) (hraw : RawD h₀ d es ep) (lo : (d == sysModules) = false)
    (hclos : closureFor scope env = Pure.pure cl) (hcell : ∀ y ∈ scope.names, y.2 ≠ .cell) (hkind : scope.kind = .function)
    (hnames : ∀ y ∈ scope.names, y.2 = .local → scope.names.lookup y.1 = some .local) (hxa : scope.names.lookup a = some .local) (hxb : scope.names.lookup b = some .local) (hab : a ≠ b) (hlen : es.size ≤ 2 ^ 20)
    (helt : ∀ i e, es[i]? = some e → ∀ C h m, Le h₀ h → h.Ns C m → m a = some e.key → m b = some e.val → Ev prog w A h (eval elt (compEnvC scope cl C env)) (DT (f i)))
    (hbase : attributeBase eo "items" env (eval eo env) = eval eo env := by rfl) (hline : (apos.endLine == cpos.line) = true := by decide)
    (hs : ∀ x, foldedSetIterable (.Call (.Attribute eo "items" apos) [] [] cpos) env x = Pure.pure x := by intro _; rfl) :
    Ev prog w A h₀ (eval (.ListComp elt [⟨.Tuple [.Name a pa, .Name b pb] kk tp, .Call (.Attribute eo "items" apos) [] [] cpos, [], 0⟩] scope pos) env) (LT ((List.range es.size).map f)) := by
  intro r h tk Q E hle q
  rw [eval_ListComp]
  refine wpAny_comprehension_free (use := none) rfl hs hclos hkind hnames ?_
  refine wpAny_Call_method (T := "dict") (id := "dict.items") hbase rfl hline F.plainAttrs_dict F.slot_dict_items F.type_dict_items (ho r h tk _ _ hle fun y h₁ t₁ k₁ f₁ => ?_)
  subst f₁
  have R₁ := hraw.le (hle.trans k₁)
  refine ⟨RawD.typeIs (s := r.st h₁ t₁) R₁, R₁.noDict, ?_⟩
  show wpAny _ _ (callWith cpos (.builtin "dict.items") [.ref d] [] []) _ _ _
  refine method_meetsIn F.slot_dict_items F.entry_dict_items rfl (PyProof.Rows.evalArgs_none ⟨rfl, RawD.typeIs (s := r.st h₁ t₁) R₁, F.args_dict_items_1 _, _, rd_items d lo, ⟨es, ep, R₁⟩, ?_⟩)
  refine rd_iterI (d := d) ⟨_, Heap.get?_push_size _ rfl, rfl, rfl⟩ (R₁.le (Le.push _ _)) ?_
  have kp1 : Le h₁ (h₁.push { cls := .type "dict_items", data := .fields #[.ref d] }) := Le.push _ _
  generalize hG : h₁.push { cls := .type "dict_items", data := .fields #[.ref d] } = h₂ at kp1
  -- the iterator
  have hI : (h₂.push { cls := .type "dict_itemiterator", data := .fields #[.none, .bool false, .ref d, .int 0 0, .int es.size 0, .int ep 0, .none, .none] }).get? h₂.objs.size = some { cls := .type "dict_itemiterator", data := .fields #[.none, .bool false, .ref d, .int 0 0, .int es.size 0, .int ep 0, .none, .none] } := Heap.get?_push_size _ rfl
  have kp2 : Le h₂ (h₂.push { cls := .type "dict_itemiterator", data := .fields #[.none, .bool false, .ref d, .int 0 0, .int es.size 0, .int ep 0, .none, .none] }) := Le.push _ _
  generalize hG3 : h₂.push { cls := .type "dict_itemiterator", data := .fields #[.none, .bool false, .ref d, .int 0 0, .int es.size 0, .int ep 0, .none, .none] } = h₃ at hI kp2
  have kk3 : Le h h₃ := k₁.trans (kp1.trans kp2)
  have ltI : h₂.objs.size < h₃.objs.size := Heap.lt_size hI
  have hIn : h.get? h₂.objs.size = none := none_of_le (k₁.trans kp1) (fresh_size h₂)
  refine wpAny_newObj_type (wpAny_newFunctionEnv hcell (by intro y hy; simp at hy) (fun h₄ hns₄ hsb₄ => ?_) hkind)
  dsimp only at hns₄ hsb₄ ⊢
  have hDg : (h₃.push { cls := .type "list", dict := none, data := .seq ([] : List Value).toArray }).get? h₃.objs.size = some { cls := .type "list", dict := none, data := .seq ([] : List Value).toArray } := Heap.get?_push_size _ rfl
  have kp3 : Le h₃ (h₃.push { cls := .type "list", dict := none, data := .seq ([] : List Value).toArray }) := Le.push _ _
  generalize hH2 : h₃.push { cls := .type "list", dict := none, data := .seq ([] : List Value).toArray } = H2 at hns₄ hsb₄ hDg kp3
  have ltD : h₃.objs.size < H2.objs.size := Heap.lt_size hDg
  have ltIC : h₂.objs.size < H2.objs.size := Nat.lt_trans ltI ltD
  have old : Le h₃ h₄ := fun b o e => hsb₄.extBut b o (Nat.ne_of_lt (Nat.lt_trans (Heap.lt_size e) ltD)) (Heap.get?_push_of_some _ (kp3 _ _ e))
  have hacc : h₄.PlainList h₃.objs.size #[] := ⟨_, hsb₄.extBut _ _ (Nat.ne_of_lt ltD) (Heap.get?_push_of_some _ hDg)⟩
  have hDn : h.get? h₃.objs.size = none := none_of_le kk3 (fresh_size h₃)
  have hCn : h.get? H2.objs.size = none := none_of_le (kk3.trans kp3) (fresh_size H2)
  have loop : ∀ tk₀, codeAny (model prog w) A (.compLoop (.ListComp elt [⟨.Tuple [.Name a pa, .Name b pb] kk tp, .Call (.Attribute eo "items" apos) [] [] cpos, [], 0⟩] scope pos) 0 (.ref h₂.objs.size) (.ref h₃.objs.size) (compEnvC scope cl H2.objs.size env)) (compPost (model prog w) A E none Q (.ref h₃.objs.size) H2.objs.size) (r.st h₄ tk₀) := by
    intro tk₀
    refine kcp_loop
      (fun k s' => ∃ H tk m' vs, ∃ i : Nat, ∃ ok ov, s' = r.st H tk ∧ i ≤ es.size ∧ k = es.size + 1 - i ∧ IsItemIter H h₂.objs.size d i es.size ep ok ov ∧ H.PlainList h₃.objs.size vs.toArray ∧ H.Ns H2.objs.size m' ∧ DVs H vs ((List.range i).map f) ∧ Le h H) ?_ (es.size + 1)
      ⟨h₄, tk₀, _, [], 0, .none, .none, rfl, Nat.zero_le _, rfl, old _ _ hI, hacc, hns₄, .nil, kk3.trans old⟩
    rintro k s' ⟨H, tk, m', vs, i, ok, ov, rfl, hi, rfl, hit, ha', hn', hD', hk'⟩
    have R := hraw.le (hle.trans hk')
    have hne : d ≠ h₂.objs.size := by
      rintro rfl
      obtain ⟨o, ho, _⟩ := hraw
      rw [hle _ _ ho] at hIn; cases hIn
    cases hx : es[i]? with
    | none =>
      have : i = es.size := by have := Array.getElem?_eq_none_iff.mp hx; omega
      subst this
      refine rd_endI hh hit R hx fun h₅ k₅ => ?_
      have k5 : Heap.ExtBut h₂.objs.size H h₅ := k₅
      have t5 : TK H h₅ := TK.but k5 fun o xs n e c q => by rw [hit] at e; cases e; cases q
      refine ⟨m', hn'.extBut k5 (Nat.ne_of_gt ltIC), fun h₆ hs₆ => ?_⟩
      have hs6 : Heap.SameBut H2.objs.size h₅ h₆ := hs₆
      have hn5 := hn'.extBut k5 (Nat.ne_of_gt ltIC)
      refine q _ h₆ _ (fun b o e => hs6.extBut b o (fun z => by rw [z, hCn] at e; cases e) (k5 b o (fun z => by rw [z, hIn] at e; cases e) (hk' b o e))) ⟨_, vs, rfl, hDn, (ha'.extBut k5 (Nat.ne_of_gt ltI)).extBut hs6.extBut (Nat.ne_of_lt ltD), (hD'.tk t5).tk (TK.ns hn5 hs6.extBut)⟩
    | some e =>
      have hlt : i < es.size := (Array.getElem?_eq_some_iff.mp hx).1
      refine rd_nextI hit R hx fun h₅ heo ht₅ hz₅ hk₅ => ?_
      have hk5 : ∀ b o, b ≠ h₂.objs.size → H.get? b = some o → h₅.get? b = some o := hk₅
      refine wpAny_letOwnedTupleGo_items heo fun h₆ he₆ hs₆ => ?_
      have hs6 : Heap.SameBut h₂.objs.size h₅ h₆ := hs₆
      have x₆ : Heap.ExtBut h₂.objs.size H h₆ := fun b o hb q => hs6.extBut b o hb (hk5 b o hb q)
      have t6 : TK H h₆ := TK.but x₆ fun o xs n e c q => by rw [hit] at e; cases e; cases q
      have hiH : h₂.objs.size < H.objs.size := Heap.lt_size hit
      have ht₆ : h₆.IsTuple H.objs.size #[e.key, e.val] := ⟨_, (hs6.2 _ (Nat.ne_of_gt hiH)).trans ht₅, rfl, _, rfl⟩
      have hn6 : h₆.Ns H2.objs.size m' := hn'.extBut x₆ (Nat.ne_of_gt ltIC)
      refine kcp_assign (env := compEnvC scope cl H2.objs.size env) hh ht₆ (lookup_relabel_local hxa) (lookup_relabel_local hxb) (by simp [compEnvC, relabel, hkind]) hn6 fun h₇ t₇ hn₇ k₇ => ?_
      have k7 : Heap.ExtBut H2.objs.size h₆ h₇ := fun c o hc z => k₇ c o hc z
      have t7 : TK h₆ h₇ := TK.ns hn6 k7
      have hb7 : Le h h₇ := fun b o z => k7 b o (fun z' => by rw [z', hCn] at z; cases z) (x₆ b o (fun z' => by rw [z', hIn] at z; cases z) (hk' b o z))
      have ha7 : h₇.PlainList h₃.objs.size vs.toArray := (ha'.extBut x₆ (Nat.ne_of_gt ltI)).extBut k7 (Nat.ne_of_lt ltD)
      have hit7 : IsItemIter h₇ h₂.objs.size d (i + 1) es.size ep e.key e.val := k7 _ _ (Nat.ne_of_lt ltIC) he₆
      have hD7 := (hD'.tk t6).tk t7
      refine helt i e hx H2.objs.size h₇ _ (hle.trans hb7) hn₇ (by simp [hab]) (by simp) r h₇ t₇ _ _ (Le.refl _) fun y h₈ t₈ k₈ hy => ?_
      have hvs : vs.length ≤ 2 ^ 20 := by have := hD'.length; simp only [List.length_map, List.length_range] at this; omega
      have ha8 : h₈.PlainList h₃.objs.size vs.toArray := ha7.at fun o z => k₈ _ o z
      refine wpAny_list_append_plain ha8 (fun h₉ hl₉ hs₉ => ?_) (size_le_of (by simpa using hvs))
      have hs9 : Heap.SameBut h₃.objs.size h₈ h₉ := hs₉
      have t9 : TK h₈ h₉ := TK.pl ha8 hs9.extBut
      refine ⟨_, ?_, h₉, t₈, _, vs ++ [y], i + 1, _, _, rfl, hlt, rfl, hs9.extBut _ _ (Nat.ne_of_lt ltI) (k₈ _ _ hit7), by simpa using hl₉, (hn₇.keeps k₈).sameBut hs9 (Nat.ne_of_gt ltD), ?_, fun b o z => hs9.extBut b o (fun z' => by rw [z', hDn] at z; cases z) (k₈ b o (hb7 b o z))⟩
      · omega
      · rw [List.range_succ, List.map_append]
        exact ((hD7.le k₈).snoc hy).tk t9
  exact codeAny_compStart_list (loop _) (kcp_self (old _ _ hI) (loop _))
end
end Mine

end
section
set_option maxRecDepth 100000
namespace Mine
open PySem PySem.W PySem.Calls PyProof.Rows
/-! ## list(bytes) -/
theorem splitB : splitId "bytes.__len__" = some ("bytes", "__len__") := by decide +kernel
theorem sub_bb : isSubtype (.type "bytes") (.type "bytes") = Pure.pure true := by rw [isSubtype_type]; kernel_rfl
section
variable {prog : Program} {w : World} {A : Around} {E : Value → Shared → Prop} {s : Shared}
theorem extend_bts {R : Result → Shared → Prop} (hh : A.handled = none) (x : Array UInt8) (t : Tok) (S : Addr) (res : Value) (c₀ : Nat) (hS : s.heap.get? S = some { cls := .type "list", data := .seq #[] c₀ })
    (hR : ∀ h' tk acc' c', (∀ b o, b ≠ S → s.heap.get? b = some o → h'.get? b = some o) → h'.get? S = some { cls := .type "list", dict := none, data := .seq acc' c', slots := #[] } →
      ItemsOf (fun i v => ∃ c u, x[i]? = some c ∧ v = .int (c.toNat : Int) u) acc' x.size → R (.ok (.ret res)) { s with heap := h', toks := tk }) (hn : x.size ≤ 2 ^ 20) :
    wpAny (model prog w) A.in1 (Builtin.List.listExtendWith (.ref S) (.bytes x t) res)
      (fun fin s' => match fin with | .done f => R (.ok f) s' | .again c' => c'.quiet = true ∧ codeAny (model prog w) A c' R s') (fun e s' => R (.error e) s') s := by
  have hSI : S ≠ s.heap.objs.size := Nat.ne_of_lt (Heap.lt_size hS)
  have hSf : S ∉ [s.heap.objs.size] := fun hm => hSI (List.mem_singleton.mp hm)
  have W := (KBw.walks (prog := prog) (w := w) (A := A.in1) hh s.heap.objs.size x t).toS
  have key : ∀ (h : Heap) (c₁ tk : Nat), KBw.IsBytesIter h s.heap.objs.size x t 0 → (∀ b o, b ≠ S → s.heap.get? b = some o → h.get? b = some o) →
      h.get? S = some { cls := .type "list", data := .seq #[] c₁ } → codeAny (model prog w) A (.builtin "list.extend.loop" ⟨[.ref S, .ref s.heap.objs.size, res], []⟩) R { s with heap := h, toks := tk } := by
    intro h c₁ tk hit hk hS₁
    refine codeAny_extend_loopS W (size_le_of hn) S hSf res x.size 0 _ #[] c₁ rfl (Nat.zero_le _) hit hS₁ (ItemsOf.nil _) fun s' acc' c' hm hS' hacc => ?_
    rw [Moved.eq_with hm]
    refine hR s'.heap s'.toks acc' c' (fun b o hb e => hm.heap b o (fun hmem => ?_) (hk b o hb e)) hS' hacc
    rcases List.mem_cons.mp hmem with e' | hmem
    · exact hb e'
    · exact absurd (Heap.lt_size e) (by rw [List.mem_singleton.mp hmem]; exact Nat.lt_irrefl _)
  unfold Builtin.List.listExtendWith
  refine wpAny_bind (wpAny_typeOf (PySem.W.typeIs_bytes _ _ _) ?_)
  have h1 : Builtin.List.listSameRef (.ref S) (.bytes x t) = false := rfl
  have h2 : (Value.type "bytes" == Value.type "list") = false := by decide
  have h3 : (Value.type "bytes" == Value.type "tuple") = false := by decide
  simp only [h1, h2, h3, Bool.or_false, Bool.false_eq_true, if_false]
  refine wpAny_bind (KBw.pyIter_bytes ?_)
  have hit₁ : KBw.IsBytesIter (s.heap.push { cls := .type "bytes_iterator", data := .fields #[.bytes x t, .int 0 0] }) s.heap.objs.size x t 0 := ⟨_, Heap.get?_push_size _ rfl, rfl, rfl⟩
  have hS₁ := Heap.get?_push_of_some { cls := .type "bytes_iterator", data := .fields #[.bytes x t, .int 0 0] } hS
  have fin1 : ∀ tk, wpAny (model prog w) A.in1 (again (.builtin "list.extend.loop" ⟨[.ref S, .ref s.heap.objs.size, res], []⟩)) (fun fin s' => match fin with | .done f => R (.ok f) s' | .again c' => c'.quiet = true ∧ codeAny (model prog w) A c' R s') (fun e s' => R (.error e) s') ⟨s.heap.push { cls := .type "bytes_iterator", data := .fields #[.bytes x t, .int 0 0] }, s.gens, s.drawn, tk, s.os⟩ :=
    fun tk => wpAny_pure ⟨plainId_quiet F.plain_extend_loop _, key _ c₀ tk hit₁ (fun b o _ e => Heap.get?_push_of_some _ e) hS₁⟩
  refine wpAny_bind (wpAny_holding ?_)
  unfold Builtin.List.listLengthHint
  refine wpAny_bind (wpAny_specialOf (PySem.W.typeIs_bytes _ _ _) FB.slot_bytes_len.lookup ?_)
  dsimp only
  rw [splitB]
  dsimp only
  refine wpAny_bind (wpAny_isInstance (PySem.W.typeIs_bytes _ _ _) sub_bb ?_)
  refine bm_if_false rfl ?_
  refine wpAny_ite_split (fun _ => ?_) (fun hab => absurd (by decide +kernel) hab)
  refine wpAny_bind (wpAny_typeOf (PySem.W.typeIs_bytes _ _ _) ?_)
  refine wpAny_pure ?_
  refine bm_if_false rfl ?_
  exact fin1 _
theorem init_bts {R : Result → Shared → Prop} (hh : A.handled = none) (x : Array UInt8) (t : Tok) (S : Addr) (hS : s.heap.get? S = some { cls := .type "list", data := .seq #[] })
    (hR : ∀ h' tk acc' c', (∀ b o, b ≠ S → s.heap.get? b = some o → h'.get? b = some o) → h'.get? S = some { cls := .type "list", dict := none, data := .seq acc' c', slots := #[] } →
      ItemsOf (fun i v => ∃ c u, x[i]? = some c ∧ v = .int (c.toNat : Int) u) acc' x.size → R (.ok (.ret .none)) { s with heap := h', toks := tk }) (hn : x.size ≤ 2 ^ 20) :
    wpAny (model prog w) A.in1 (Builtin.«list.__init__» ⟨[.ref S, .bytes x t], []⟩)
      (fun fin s' => match fin with | .done f => R (.ok f) s' | .again c' => c'.quiet = true ∧ codeAny (model prog w) A c' R s') (fun e s' => R (.error e) s') s := by
  show wpAny _ _ (do let old ← Builtin.List.listItems (.ref S); Builtin.List.listUpdate (.ref S) (fun _ => #[]); letGo old.toList.reverse; Builtin.List.listExtendWith (.ref S) (.bytes x t) .none) _ _ s
  refine wpAny_bind ?_
  unfold Builtin.List.listItems
  refine wpAny_bind (wpAny_seqItems hS rfl (wpAny_pure ?_))
  show wpAny _ _ (updateSeq S (fun _ => #[]) >>= fun _ => letGo (#[] : Array Value).toList.reverse >>= fun _ => Builtin.List.listExtendWith (.ref S) (.bytes x t) .none) _ _ s
  refine wpAny_bind (wpAny_updateSeq hS rfl ?_)
  have hS₂ := Heap.get?_update_self (Obj.mapSeq (fun _ => (#[] : Array Value))) hS rfl
  have oth : ∀ b o, b ≠ S → s.heap.get? b = some o → (s.heap.update S (Obj.mapSeq (fun _ => (#[] : Array Value)))).get? b = some o :=
    fun b o hb e => (Heap.get?_update_other _ _ (Ne.symm hb)).trans e
  refine wpAny_bind (wpAny_letGo ?_)
  refine extend_bts (hn := hn) hh x t S .none _ hS₂ fun h' tk acc' c' hk hS' hacc => ?_
  exact hR h' tk acc' c' (fun b o hb e => hk b o hb (oth b o hb e)) hS' hacc
theorem call_list_bts {Q : Value → Shared → Prop} (hh : A.handled = none) (x : Array UInt8) (t : Tok)
    (hQ : ∀ h' tk acc' c', (∀ b o, s.heap.get? b = some o → h'.get? b = some o) →
      h'.get? s.heap.objs.size = some { cls := .type "list", dict := none, data := .seq acc' c', slots := #[] } → ItemsOf (fun i v => ∃ c u, x[i]? = some c ∧ v = .int (c.toNat : Int) u) acc' x.size → Q (.ref s.heap.objs.size) { s with heap := h', toks := tk }) (hn : x.size ≤ 2 ^ 20) :
    wpAny (model prog w) A (call (.type "list") [.bytes x t]) Q E s := by
  refine callType_codes (Q₁ := fun obj s₁ => obj = .ref s.heap.objs.size ∧ s₁ = { s with heap := s.heap.push { cls := .type "list", data := .seq #[] } }) F.called_list (F.typeCall_list_1 _) F.entry_list_init
    (code_list_new _ ⟨rfl, rfl⟩) fun obj s₁ h₁ => ?_
  obtain ⟨rfl, rfl⟩ := h₁
  have hS : (s.heap.push { cls := .type "list", data := .seq #[] }).get? s.heap.objs.size = some { cls := .type "list", data := .seq #[] } := Heap.get?_push_size _ rfl
  refine ⟨⟨_, hS, rfl⟩, F.args_list_init_2 _ _, init_bts (A := A.in1) (hn := hn) hh x t _ hS fun h' tk acc' c' hk hS' hacc => ?_⟩
  exact ⟨rfl, hQ h' tk acc' c' (fun b o e => hk b o (Nat.ne_of_lt (Heap.lt_size e)) (Heap.get?_push_of_some _ e)) hS' hacc⟩
end
section
variable {prog : Program} {w : World} {A : Around} {h₀ : Heap} {env : Env} {func e : Expr} {pos : Pos}
theorem callListB {l : List Nat} {u : Value} (hh : A.handled = none) (hu : DV h₀ u (.bts l)) (hlen : l.length ≤ 2 ^ 20) : Ev prog w A h₀ (call (.type "list") [u]) (LT (l.map fun n => .int (Int.ofNat n))) := by
  cases hu with | bts _ t h256 =>
  intro r h tk Q E k q
  refine call_list_bts hh _ _ (fun h' tk' acc' c' k' hD hi => q _ _ _ k' ⟨_, acc'.toList, rfl, fresh_size _, ⟨c', by simpa using hD⟩, ?_⟩) (by rw [mkB_size]; exact hlen)
  have hsz : acc'.toList.length = l.length := by rw [← mkB_size l]; simpa using hi.1
  have key : ∀ (vs : List Value) (ns : List Nat), vs.length = ns.length → (∀ (j : Nat) (v : Value) (n : Nat), vs[j]? = some v → ns[j]? = some n → ∃ t, v = Value.int (n : Int) t) → DVs h' vs (ns.map fun n => Dt.int (Int.ofNat n)) := by
    intro vs
    induction vs with
    | nil => intro ns hl _; cases ns with
      | nil => exact .nil
      | cons n ns => cases hl
    | cons v vs ih => intro ns hl hx; cases ns with
      | nil => cases hl
      | cons n ns =>
        obtain ⟨t, rfl⟩ := hx 0 v n rfl rfl
        exact .cons (.int _ _) (ih ns (by simpa using hl) fun j v n h1 h2 => hx (j + 1) v n (by simpa using h1) (by simpa using h2))
  refine key _ _ hsz fun j v n hv hn => ?_
  obtain ⟨c, u, hc, rfl⟩ := hi.2 j v (by simpa using hv)
  have h2 := h256 n (List.mem_of_getElem? hn)
  have : c = n.toUInt8 := by
    rw [show mkB l = (l.map Nat.toUInt8).toArray from rfl] at hc
    simp [hn] at hc
    exact hc.symm
  subst this
  exact ⟨u, by simp [Nat.mod_eq_of_lt h2]⟩
theorem Ev.listB {l : List Nat} (hh : A.handled = none) (g : Ev prog w A h₀ (eval func env) (VE (.type "list"))) (x : Ev prog w A h₀ (eval e env) (DT (.bts l))) (hlen : l.length ≤ 2 ^ 20)
    (hs : starEach [e] env = [(false, eval e env)] := by rfl)
    (he : eval (.Call func [e] [] pos) env = (do callWith pos (← eval func env) [] (backTo pos (starEach [e] env)) (backToKw pos (keywordEach [] env))) := by rfl) : Ev prog w A h₀ (eval (.Call func [e] [] pos) env) (LT (l.map fun n => .int (Int.ofNat n))) :=
  Ev.call1 g (fun _ _ => keeps_type _) x (fun h a h' _ _ f => (callListB hh f hlen).mono fun h₁ y h₂ k _ z => Dn.lt (Le.trans ‹_› k) z) Dn.lt hs he
/-- an empty dict -/
theorem Ev.dict0 (B : Bs w h₀) : Ev prog w A h₀ (eval (.Dict [] [] pos) env) (fun h y h' => ∃ d, y = .ref d ∧ (d == sysModules) = false ∧ h.get? d = none ∧ h'.get? d = some { cls := .type "dict", data := .dict #[] }) := by
  intro r h tk Q E k q
  exact wpAny_Dict_empty (q _ _ _ (Le.push _ _) ⟨_, rfl, size_lo (B.le k), fresh_size h, Heap.get?_push_size _ rfl⟩)
end
/-! ## more of C -/
section
variable {M : Model} {A : Around} {E : Value → Shared → Prop} {s : Shared} {env : Env}
theorem wpC.If {test : Expr} {body orelse : List Stmt} {pos : Pos} {Q : Flow → Shared → Prop}
    (h : wpC M A (isTrue test env (eval test env)) (fun b s₂ => if b then wpC M A (PySem.execs body env) Q E s₂ else wpC M A (PySem.execs orelse env) Q E s₂) E s) : wpC M A (exec (.If test body orelse pos) env) Q E s := fun Γ p hΓ c => by
  simp only [exec_If, Sem.wp_bind', Sem.wp_cmd_standAt]
  refine Sem.wp_mono M Γ _ (fun b p₂ s₂ h₂ => ?_) (fun _ _ _ h' => h') _ _ (h Γ _ hΓ c)
  cases b <;> exact h₂ Γ p₂ hΓ c
theorem wpC.isTrue_Compare1 {op : CmpOp} {l r : Expr} {pos : Pos} {whole : Sem Value} {Q : Bool → Shared → Prop}
    (h : wpC M A (eval l env) (fun a s₁ => wpAny M A (eval r env) (fun b s₂ => wpAny M A (compareOp op a b) (fun c s₃ => wpAny M A (truthy c) Q E s₃) E s₂) E s₁) E s)
    (hm : behindInMarks op r = false := by with_unfolding_all rfl) : wpC M A (isTrue (.Compare l [op] [r] pos) env whole) Q E s := fun Γ p hΓ c => by
  simp only [PySem.isTrue_Compare1, markedBehindIn_of_false hm, Sem.wp_bind', Sem.wp_holding, Sem.wp_cmd_standAt, Sem.wp_operate]
  exact Sem.wp_mono M Γ _ (fun a p₁ s₁ h₁ => Sem.wp_mono M Γ _ (fun b _ s₂ h₂ => Sem.wp_mono M Γ _ (fun c p₃ s₃ h₃ => h₃ Γ p₃ hΓ)
    (fun _ _ _ h' => h') _ _ (h₂ Γ _ hΓ)) (fun _ _ _ h' => h') _ _ (h₁ Γ p₁ hΓ)) (fun _ _ _ h' => h') _ _ (h Γ p hΓ c)
theorem wpC.isTrue_BoolOp {op : BoolOp} {values : List Expr} {pos : Pos} {whole : Sem Value} {Q : Bool → Shared → Prop} (h : wpC M A (allTrue op values env) Q E s) : wpC M A (isTrue (.BoolOp op values pos) env whole) Q E s := by rw [arm_isTrue_BoolOp]; exact h
theorem wpC.allTrue_Or_nil {Q : Bool → Shared → Prop} (h : Q false s) : wpC M A (allTrue .Or [] env) Q E s := wpC.pure h
theorem wpC.allTrue_Or_cons {x : Expr} {rest : List Expr} {Q : Bool → Shared → Prop}
    (h : wpC M A (isTrue x env (eval x env)) (fun b s₁ => if b then Q true s₁ else wpC M A (allTrue .Or rest env) Q E s₁) E s) : wpC M A (allTrue .Or (x :: rest) env) Q E s := by
  show wpC M A (do match BoolOp.Or, ← isTrue x env (eval x env) with | .And, false => Pure.pure false | .Or, true => Pure.pure true | _, _ => allTrue .Or rest env) Q E s
  refine wpC.bind (h.mono (fun b s₁ h₁ => ?_) fun _ _ x => x)
  cases b
  · exact h₁
  · exact wpC.pure h₁
end
end Mine

end
section
set_option maxRecDepth 100000
namespace Mine
open PySem PySem.W PySem.Calls PyProof.Rows
theorem int_key {prog : Program} {w : World} {k : Int} {v : Value} (h : (PySem.intKind prog w).is k v = true) : ∃ t, v = .int k t := by
  cases v <;> simp [PySem.intKind, Value.isInt] at h
  exact ⟨_, by rw [h]⟩
section
variable {prog : Program} {w : World} {A : Around} {g : Heap} {L : Addr} {h : Heap} {tk : Nat} {r : Rst} {m : Str → Option Value} {Φ : List (Addr × Obj)} {T : List (List Value × List Dt)} {env : Env}
/-- for x in d: a table of numbers that stays as it is -/
theorem forKeys {x : Str} {xp pos : Pos} {iter : Expr} {body : List Stmt} {d : Addr} {o : Obj} {ks : List Int} {Q : Flow → Shared → Prop} (J : RInv) (hh : A.handled = none) (W : Ws g L h m Φ T)
    (hi : Ev prog w A h (eval iter env) (VE (.ref d))) (lo : (d == sysModules) = false) (hK : KO prog w o ks)
    (hget : ∀ i m Φ T H, J i m Φ T → Ws g L H m Φ T → H.get? d = some o) (hJ : J 0 m Φ T)
    (turn : ∀ i k t m Φ T H tk I oI, J i m Φ T → ks[i]? = some k → Ws g L H m ((I, oI) :: Φ) T →
      wpAny (model prog w) A (assign (.Name x xp) env (.int k t)) (fun _ s₂ => wpAny (model prog w) A (execs body env) (REnd g L r I oI J i Q) NoE s₂) NoE (r.st H tk))
    (done : ∀ m Φ T H tk, J ks.length m Φ T → Ws g L H m Φ T → Q .next (r.st H tk))
    (hs : ∀ x, foldedSetIterable iter env x = Pure.pure x := by intro _; rfl) : wpAny (model prog w) A (exec (.For (.Name x xp) iter body [] pos) env) Q NoE (r.st h tk) := by
  obtain ⟨kvs, ⟨es, ep, hde⟩, rfl⟩ := hK
  have at_ : ∀ {H : Heap}, H.get? d = some o → H.DictAt (PySem.intKind prog w) d kvs ep := fun e => ⟨o, es, e, hde⟩
  refine wpAny_For (hi r h tk _ _ (Le.refl _) fun y h₁ t₁ k₁ f₁ => ?_) hs
  rw [show y = .ref d from f₁]
  have W₁ := W.le k₁
  refine wpAny_pyIter_dict (knd := PySem.intKind prog w) lo (at_ (hget _ _ _ _ _ hJ W₁)) ?_
  refine codeAny_forLoop (fun n s => ∃ i m Φ T H tk I oI, s = r.st H tk ∧ i ≤ kvs.length ∧ n = kvs.length - i ∧ J i m Φ T ∧ Ws g L H m ((I, oI) :: Φ) T ∧ I = h₁.objs.size ∧ oI.cls = .type "dict_keyiterator" ∧ oI.data = .fields #[.ref d, .int i 0, .int kvs.length 0, .int ep 0]) ?_ kvs.length
    ⟨0, m, Φ, T, _, t₁, _, _, rfl, Nat.zero_le _, rfl, hJ, W₁.add (Le.push _ _) (fresh_size _) (Heap.get?_push_size _ rfl), rfl, rfl, rfl⟩
  clear hJ W₁
  rintro n s ⟨i, m, Φ, T, H, tk, I, oI, rfl, hi, rfl, hJ', W', rfl, hc, hd⟩
  have D := W'.N (_, oI) (.head _)
  have nt : ∀ xs k, oI.cls = .type "tuple" → oI.data = .seq xs k → False := fun xs k c q => by rw [hd] at q; cases q
  have hit : H.IsKeyIter h₁.objs.size d i kvs.length ep := ⟨oI, D.1, hc, hd⟩
  have R := at_ (hget _ _ _ _ _ hJ' (W'.sub (List.sublist_cons_self _ _) fun _ p => p))
  cases hx' : kvs[i]? with
  | none =>
    have : i = kvs.length := by have := List.getElem?_eq_none_iff.mp hx'; omega
    subst this
    exact wpAny_pyNext_dict_end hh hit R hx' fun h₃ k₃ => wpAny_execs_nil (done _ _ _ _ _ (by rw [List.length_map]; exact hJ') (W'.rest k₃ nt))
  | some e =>
    obtain ⟨k, v⟩ := e
    have hlt : i < kvs.length := (List.getElem?_eq_some_iff.mp hx').1
    refine wpAny_pyNext_dict_item hit R hx' fun key h₃ hkey hit₃ hs₃ => ?_
    obtain ⟨t, rfl⟩ := int_key hkey
    obtain ⟨o₃, e₃, c₃, d₃⟩ := hit₃
    have W₃ : Ws g L h₃ m ((h₁.objs.size, o₃) :: Φ) T := W'.setAt (n := 0) rfl hs₃ e₃ nt
    refine wpAny_mono (turn i k t m Φ T h₃ _ _ o₃ hJ' (by rw [List.getElem?_map, hx']; rfl) W₃) (fun _ s₂ q => wpAny_mono q (fun f s₃ z => ?_) fun _ _ z => z.elim) fun _ _ z => z.elim
    have fin : (∃ m' Φ' T' H' tk', s₃ = r.st H' tk' ∧ J (i + 1) m' Φ' T' ∧ Ws g L H' m' ((h₁.objs.size, o₃) :: Φ') T') →
        ∃ m, m < kvs.length - i ∧ (∃ i m' Φ T H tk I oI, s₃ = r.st H tk ∧ i ≤ kvs.length ∧ m = kvs.length - i ∧ J i m' Φ T ∧ Ws g L H m' ((I, oI) :: Φ) T ∧ I = h₁.objs.size ∧ oI.cls = .type "dict_keyiterator" ∧ oI.data = .fields #[.ref d, .int i 0, .int kvs.length 0, .int ep 0]) := by
      rintro ⟨m', Φ', T', H', tk', e1, hJ'', W''⟩
      exact ⟨_, by omega, i + 1, m', Φ', T', H', tk', _, o₃, e1, hlt, rfl, hJ'', W'', rfl, c₃, d₃⟩
    cases f with
    | next => exact fin z
    | cont => exact fin z
    | brk => exact z
    | ret v => exact z
/-- a test that says no, nothing else -/
theorem exIfNo {test : Expr} {body : List Stmt} {pos : Pos} {E : Value → Shared → Prop} {Q : Flow → Shared → Prop} (W : Ws g L h m Φ T) (x : Ev prog w A h (isTrue test env (eval test env)) (fun _ c _ => c = false))
    (q : ∀ h' tk', Ws g L h' m Φ T → Q .next (r.st h' tk')) : wpAny (model prog w) A (exec (.If test body [] pos) env) Q E (r.st h tk) := by
  refine wpAny_If (x r h tk _ E (Le.refl _) fun b h₁ t₁ k₁ f₁ => ?_)
  rw [show b = false from f₁]
  simp only [Bool.false_eq_true, if_false]
  exact wpAny_execs_nil (q _ _ (W.le k₁))
/-- a test of numbers that are alike -/
theorem Ev.neNo {l e : Expr} {pos : Pos} {h₀ : Heap} {a b : Int} (x : Ev prog w A h₀ (eval l env) (DT (.int a))) (y : Ev prog w A h₀ (eval e env) (DT (.int b))) (hab : a = b) {whole : Sem Value} (hm : behindInMarks .NotEq e = false := by with_unfolding_all rfl) : Ev prog w A h₀ (isTrue (.Compare l [.NotEq] [e] pos) env whole) (fun _ c _ => c = false) := by
  refine Ev.isCmp (φ := DT (.int a)) (ψ := DT (.int b)) (c := false) x y ?_ hm
  intro h x h₁ y h₂ _ _ _ ex ey
  cases ex; cases ey
  have : false = (a != b) := by subst hab; simp
  rw [this]
  exact neI
end
end Mine

end
section
set_option maxRecDepth 100000
namespace Mine
open PySem PySem.W PySem.Calls PyProof.Rows
section
variable {M : Model} {A : Around} {E : Value → Shared → Prop} {s : Shared}
/-- the frame of a lambda of one cell and one free name -/
theorem lam_env {scope : Scope} {x y : Str} {c globals builtins : Addr} {v : Value} {qual : Str} {func : Option Addr} {code : Value} {Q : Env → Shared → Prop} (hk : scope.kind = .function) (hn : scope.names = [(x, .cell), (y, .free)])
    (h : ∀ h', Le s.heap h' → h'.IsCell (s.heap.objs.size + 1) (some v) → Q (newEnv scope s.heap.objs.size globals [(x, s.heap.objs.size + 1), (y, c)] qual func code none builtins) { s with heap := h' }) :
    wpAny M A (newFunctionEnv scope globals [(y, c)] [(x, v)] qual func code none builtins) Q E s := by
  unfold newFunctionEnv
  rw [hn]
  simp only [Option.isSome_none, Bool.false_eq_true, if_false]
  refine wpAny_bind (wpAny_alloc ?_)
  rw [List.forIn_cons]
  simp only [show ((NameKind.cell == NameKind.cell) = true) from rfl, if_true]
  refine wpAny_bind (wpAny_bind (wpAny_bind (wpAny_alloc (wpAny_pure ?_))))
  dsimp only
  rw [List.forIn_cons]
  simp only [show ((NameKind.free == NameKind.cell) = false) from rfl, Bool.false_eq_true, if_false]
  refine wpAny_bind (wpAny_pure ?_)
  dsimp only
  rw [List.forIn_nil]
  refine wpAny_pure ?_
  rw [List.forIn_cons]
  have hs1 : (s.heap.push { cls := .type "frame", data := .dict #[] }).objs.size = s.heap.objs.size + 1 := Heap.size_push _ _
  have hc0 : ((s.heap.push { cls := .type "frame", data := .dict #[] }).push { cls := .type "cell", data := .cell none }).IsCell (s.heap.objs.size + 1) none := ⟨_, hs1 ▸ Heap.get?_push_size _ rfl, rfl⟩
  refine wpAny_bind (wpAny_bind (wpAny_bind (wpAny_storeName_cell (c := s.heap.objs.size + 1) hk ?_ ?_ hc0 fun h' hc' hs' => wpAny_pure ?_)))
  · show scope.names.lookup x = _
    rw [hn]; simp
  · simp [hs1]
  · dsimp only
    rw [List.forIn_nil]
    refine wpAny_pure (wpAny_pure ?_)
    have e := h h' (fun b o e => hs'.extBut b o (fun z => ?_) (Heap.get?_push_of_some _ (Heap.get?_push_of_some _ e))) hc'
    · rw [hs1]; exact e
    · have := Heap.lt_size e
      rw [z] at this
      exact Nat.lt_irrefl _ (Nat.lt_trans this (Nat.lt_succ_self _))
end
section
variable {prog : Program} {w : World} {A : Around} {h₀ : Heap}
/-- a call of a lambda -/
theorem lam_call {f c c' : Addr} {x y : Str} {qual : Str} {params : Arguments} {body : Expr} {scope : Scope} {pm ctv a : Value} {φ : Heap → Value → Heap → Prop} (hroom : A.depth < recursionLimit) (hlim : h₀.NoLimit)
    (ho : h₀.get? f = some (kla_obj "<lambda>" qual params body scope [(y, c)] pm c' ctv)) (hcd : h₀.CodeRec (.ref c') qual)
    (hbind : bindArgs (kla_fn "<lambda>" qual params body scope [(y, c)] pm (.ref c') ctv) ⟨[a], []⟩ = Pure.pure [(x, a)])
    (hk : scope.kind = .function) (hn : scope.names = [(x, .cell), (y, .free)]) (hco : scope.isCoroutine = false) (hgen : scope.isGenerator = false)
    (hb : ∀ h L h₁, Le h₀ h → Le h h₁ → h₁.IsCell (L + 1) (some a) → Ev prog w (A.deeper (newEnv scope L mainGlobals [(x, L + 1), (y, c)] (qual ++ ".<locals>.") (some f) (.ref c') none builtinsNs)) h₁ (eval body (newEnv scope L mainGlobals [(x, L + 1), (y, c)] (qual ++ ".<locals>.") (some f) (.ref c') none builtinsNs)) (fun _ v h₂ => φ h v h₂)) :
    Ev prog w A h₀ (call (.ref f) [a]) φ := by
  intro r h tk Q E k q
  refine wpAny_call (kla_callFunE hroom (k _ _ ho) rfl hco hgen rfl (let ⟨c₂, oc, vs, t, e, h1, r⟩ := hcd; ⟨c₂, oc, vs, t, e, k _ _ h1, r⟩) ?_)
  rw [hbind]
  refine wpAny_pure (lam_env hk hn fun h₁ k₁ hc₁ => ⟨(hlim.keeps k).keeps k₁, ?_⟩)
  exact kla_codeExpr (hb h _ h₁ k k₁ hc₁ r h₁ tk _ _ (Le.refl _) fun v h₂ t₂ k₂ f₂ => q v h₂ t₂ (k₁.trans k₂) f₂)
end
/-! ## the table of code of the frame -/
def TabOk (ps : Array Value) (ls : List Int) : Prop := TriplesOk ps.toList ∧ ∀ p : Pos, (p.line : Int) ∉ ls → codeAmong p ps.toList = none
theorem TabOk.nil : TabOk #[] [] := ⟨trivial, fun _ _ => rfl⟩
theorem among_snoc (p : Pos) (a b : Int) (c : Value) (l : List Value) (h : TriplesOk l) (hn : codeAmong p l = none) (ha : (p.line : Int) ≠ a) : codeAmong p (l ++ [rawInt a, rawInt b, c]) = none := by
  fun_induction TriplesOk l with
  | case1 => simp only [List.nil_append, codeAmong, rawInt]; rw [if_neg]; simp; intro e; exact absurd e.symm ha
  | case2 a' t b' u x rest ih =>
    simp only [List.cons_append, codeAmong] at hn ⊢
    split at hn
    · cases hn
    · rename_i hc; rw [if_neg hc]; exact ih h hn
  | case3 l h1 h2 => exact h.elim
theorem TabOk.snoc {ps : Array Value} {ls : List Int} (x : TabOk ps ls) (a b : Int) (c : Value) : TabOk (ps ++ #[rawInt a, rawInt b, c]) (a :: ls) := by
  refine ⟨by simpa using TriplesOk_snoc a b c ps.toList x.1, fun p hp => ?_⟩
  have e : (ps ++ #[rawInt a, rawInt b, c]).toList = ps.toList ++ [rawInt a, rawInt b, c] := by simp
  rw [e]
  exact among_snoc p a b c _ x.1 (x.2 p fun z => hp (.tail _ z)) fun z => hp (z ▸ .head _)
section
variable {g : Heap} {L : Addr} {h h' : Heap} {m : Str → Option Value} {Φ : List (Addr × Obj)} {T : List (List Value × List Dt)}
theorem Ws.setX (W : Ws g L h m Φ T) {n : Nat} {d : Addr} {o o' : Obj} (e : Φ[n]? = some (d, o)) (hs : Heap.ExtBut d h h') (ho : h'.get? d = some o') (nt : ∀ xs k, o.cls = .type "tuple" → o.data = .seq xs k → False) : Ws g L h' m (Φ.set n (d, o')) T := by
  have D := W.N (d, o) (List.mem_of_getElem? e)
  have hm := nodup_set (fun p : Addr × Obj => p.1) Φ n (d, o) (d, o') e rfl
  have hn : n < Φ.length := (List.getElem?_eq_some_iff.mp e).1
  have t : TK h h' := TK.but hs fun o₁ xs k e₁ c q => by rw [D.1] at e₁; cases e₁; exact nt xs k c q
  refine ⟨⟨W.F.ns.extBut hs (Ne.symm D.2.1), fun b x q => hs b x (fun z => by rw [z, D.2.2] at q; cases q) (W.keep b x q), W.F.above⟩, fun p hp => ?_, hm ▸ W.nd, fun p hp => (W.T p hp).tk t⟩
  obtain ⟨i, hi⟩ := List.mem_iff_getElem?.mp hp
  rw [List.getElem?_set] at hi
  split at hi
  · rename_i q
    subst q
    cases hi
    exact ⟨ho, D.2⟩
  · rename_i q
    have P := W.N p (List.mem_of_getElem? hi)
    refine ⟨hs _ _ (fun z => ?_) P.1, P.2⟩
    have nd := W.nd
    have e1 : (Φ.map (·.1))[n]? = some d := by rw [List.getElem?_map, e]; rfl
    have e2 : (Φ.map (·.1))[i]? = some d := by rw [List.getElem?_map, hi]; simp [z]
    exact q ((List.getElem?_inj (by simpa using hn) nd).mp (e1.trans e2.symm))
end
section
variable {prog : Program} {w : World} {A : Around} {g : Heap} {L : Addr} {h : Heap} {tk : Nat} {r : Rst} {m : Str → Option Value} {Φ : List (Addr × Obj)} {T : List (List Value × List Dt)} {env : Env} {E : Value → Shared → Prop} {p : Program} {loose : List Str} {mean : ExcName → Option Value} {mg mb : Str → Option Value}
/-- a lambda in a frame whose code is object 70, with its table 68 -/
theorem lamE {params : Arguments} {body : Expr} {scope : Scope} {pos : Pos} {clos : List (Str × Addr)} {ps : Array Value} {ls : List Int} {Q : Value → Shared → Prop} (W : Ws g L h m Φ T) (TT : Top p loose mean mg mb g) (C : CodeHd g 70 68) (n : Nat) (hn : Φ[n]? = some (68, tabObj ps)) (ht : TabOk ps ls) (hl : (pos.line : Int) ∉ ls)
    (hcode : env.code = .ref 70) (hglob : env.globals = mainGlobals) (hcl : closureFor scope env = Pure.pure clos) (hdef : defaultsOf params env = ([], []))
    (q : ∀ f c' pm ctv h' tk' ps', Heap.ExtBut 68 h h' → TabOk ps' (pos.line :: ls) → Ws g L h' m (Φ.set n (68, tabObj ps')) T → h'.get? f = some (kla_obj "<lambda>" (env.qual ++ "<lambda>") params body scope clos pm c' ctv) → h'.CodeRec (.ref c') (env.qual ++ "<lambda>") → Q (.ref f) (r.st h' tk')) :
    wpAny (model prog w) A (eval (.Lambda params body scope pos) env) Q E (r.st h tk) := by
  have hgs := TT.g.keeps W.keep
  have hP := W.N _ (List.mem_of_getElem? hn)
  obtain ⟨bm, ob, b1, b2, b3, b4, b5, b6⟩ := TT.bmain
  have hgP : mainGlobals ≠ 68 := fun q => by
    obtain ⟨o, es, ep, e, hd, _⟩ := hgs
    rw [q, hP.1] at e; cases e; cases hd
  have hbP : bm ≠ 68 := fun q => by
    have e := W.keep _ _ b3
    rw [q, hP.1] at e; cases e; cases b4
  have hbG : bm ≠ mainGlobals := fun q => by
    obtain ⟨o, es, ep, e, hd, _⟩ := TT.g
    rw [q, e] at b3; cases b3; rw [hd] at b6; cases b6
  refine kla_eval hdef (kla_makeFunction (mg := mg) hcl hglob hgs hcode (C.keeps W.keep) hP.1 ht.1 (ht.2 _ hl) hgP ⟨bm, ob, b1, b2, hbG, hbP, W.keep _ _ b3, b4, b5, b6⟩ fun c' ctv h' tk' hx hge hlt hrec htb => ?_)
  have W' := W.setX hn hx htb (fun xs k c _ => by cases c)
  refine q _ c' _ ctv _ tk' _ (fun b o hb e => Heap.get?_push_of_some _ (hx b o hb e)) (ht.snoc _ _ _) (W'.le (Le.push _ _)) (Heap.get?_push_size _ rfl) ?_
  obtain ⟨c₂, oc, vs, t, e2, hoc, r⟩ := hrec
  exact ⟨c₂, oc, vs, t, e2, Heap.get?_push_of_some _ hoc, r⟩
/-- _law_lots(e, lambda ..) -/
theorem lotsE {fp pos lp : Pos} {e : Expr} {params : Arguments} {body : Expr} {scope : Scope} {x y : Str} {c : Addr} {ps : Array Value} {ls : List Int} {φ : Heap → Value → Heap → Prop} {lead : Dt → List Dt} {N : Nat} {ds : List Dt} {out : Nat} {Q : Value → Shared → Prop}
    (hh : A.handled = none) (hroom : A.depth + 1 < recursionLimit) (hu : A.units + 100 < cLine) (Bg : Bs w g) (W : Ws g L h m Φ T) (TT : Top p loose mean mg mb g) (C : CodeHd g 70 68) (n : Nat) (hn : Φ[n]? = some (68, tabObj ps)) (ht : TabOk ps ls) (hl : (lp.line : Int) ∉ ls)
    (hcode : env.code = .ref 70) (hglob : env.globals = mainGlobals) (hcl : closureFor scope env = Pure.pure [(y, c)]) (hdef : defaultsOf params env = ([], []))
    (hf : Ev prog w A h (eval (.Name "_law_lots" fp) env) (VE (.ref 59)))
    (he : Ev prog w A h (eval e env) φ) (hs : lotsGo lead N ds 0 = some out)
    (hlist : ∀ h₁ u h₂, Le h h₁ → φ h₁ u h₂ → ∀ env' h₃ ps', h₂.get? 68 = some (tabObj ps) → Heap.ExtBut 68 h₂ h₃ → Ws g L h₃ m (Φ.set n (68, tabObj ps')) T → Ev prog w (A.deeper env') h₃ (call (.type "list") [u]) (LT ds))
    (hbind : ∀ pm ctv c' a, bindArgs (kla_fn "<lambda>" (env.qual ++ "<lambda>") params body scope [(y, c)] pm (.ref c') ctv) ⟨[a], []⟩ = Pure.pure [(x, a)])
    (hk : scope.kind = .function) (hnm : scope.names = [(x, .cell), (y, .free)]) (hco : scope.isCoroutine = false) (hgen : scope.isGenerator = false)
    (hlead : ∀ d ∈ ds, ∀ a env' f c' h₁ L' h₂ ps', DV h₁ a d → Le h₁ h₂ → Ws g L h₁ m (Φ.set n (68, tabObj ps')) T → h₂.IsCell (L' + 1) (some a) →
      Ev prog w ((A.deeper env').deeper (newEnv scope L' mainGlobals [(x, L' + 1), (y, c)] (env.qual ++ "<lambda>" ++ ".<locals>.") (some f) (.ref c') none builtinsNs)) h₂ (eval body (newEnv scope L' mainGlobals [(x, L' + 1), (y, c)] (env.qual ++ "<lambda>" ++ ".<locals>.") (some f) (.ref c') none builtinsNs)) (LT (lead d)))
    (hds : ∀ d ∈ ds, shal d = true) (hld : ∀ d ∈ ds, ∀ e ∈ lead d, shal e = true) (hz : ds.length ≤ 2 ^ 20)
    (q : ∀ t h' tk' ps', TabOk ps' (lp.line :: ls) → Ws g L h' m (Φ.set n (68, tabObj ps')) T → Q (.int out t) (r.st h' tk'))
    (hst : starEach [e, .Lambda params body scope lp] env = [(false, eval e env), (false, eval (.Lambda params body scope lp) env)] := by rfl)
    (heq : eval (.Call (.Name "_law_lots" fp) [e, .Lambda params body scope lp] [] pos) env = (do callWith pos (← eval (.Name "_law_lots" fp) env) [] (backTo pos (starEach [e, .Lambda params body scope lp] env)) (backToKw pos (keywordEach [] env))) := by rfl) :
    wpAny (model prog w) A (eval (.Call (.Name "_law_lots" fp) [e, .Lambda params body scope lp] [] pos) env) Q E (r.st h tk) := by
  refine Call_ (hf r h tk _ E (Le.refl _) fun y₀ h₁ t₁ k₁ f₁ => ?_) heq
  rw [show y₀ = .ref 59 from f₁]
  rw [hst]
  refine callWith_of (P := Le g) rfl (fun h₂ k₂ => keeps_fn (k₂ _ _ (Bg.1 59 _ rfl)) rfl) (evalArgs_plain (spliced_cons ?_))
  refine he r h₁ t₁ _ E k₁ fun u h₂ t₂ k₂ f₂ => spliced_cons ?_
  have W₂ := W.le (k₁.trans k₂)
  have hx68 := (W₂.N _ (List.mem_of_getElem? hn)).1
  refine lamE W₂ TT C n hn ht hl hcode hglob hcl hdef fun f c' pm ctv h₃ t₃ ps' hx ht' W₃ ef ec => spliced_nil ⟨W₃.keep, ?_⟩
  refine lots_spec (h₀ := h₃) hh (Nat.lt_of_succ_lt hroom) hu (Bg.le W₃.keep) hs ?_ ?_ ?_ hds hld hz r h₃ t₃ Q E (Le.refl _) fun v h₄ t₄ k₄ f₄ => ?_
  · intro env' h k
    exact (hlist h₁ u h₂ k₁ f₂ env' h₃ ps' hx68 hx W₃).lift k
  · intro h k
    exact keeps_fn (k _ _ ef) rfl
  · intro env' h d v k hd hv
    have W₄ := W₃.le k
    refine lam_call (h₀ := h) (x := x) (y := y) (c := c) hroom (Bs.lim (Bg.le W₄.keep)) (k _ _ ef) (let ⟨c₂, oc, vs, t, e, h1, r⟩ := ec; ⟨c₂, oc, vs, t, e, k _ _ h1, r⟩) (hbind _ _ _ _) hk hnm hco hgen fun h5 L5 h6 k5 k6 hc6 => ?_
    exact (hlead d hd v env' f c' h5 L5 h6 ps' (hv.le k5) k6 (W₄.le k5) hc6).mono fun h7 a h8 l7 l8 f8 => Dn.lt (k6.trans l7) f8
  · cases f₄ with | int _ t =>
    exact q t h₄ t₄ ps' ht' (W₃.le k₄)
end
end Mine

end
section
set_option maxRecDepth 100000
namespace Mine
open PySem PySem.W PySem.Calls PyProof.Rows
/-! ## the law's own text -/
noncomputable def lawFd (w : World) : FuncData := match (H.hd.heap_39 w.params).lookup 71 with | some ⟨_, _, .func fd, _⟩ => fd | _ => default
noncomputable def lawB (w : World) : List Stmt := match (lawFd w).body with | .stmts b => b | _ => []
noncomputable def lawS (w : World) (i : Nat) : Stmt := (lawB w).getD i default
noncomputable def lawEnv (w : World) (L : Addr) : Env := callEnvC (lawFd w) L 71
theorem lawB_eq (w : World) : lawB w = [lawS w 0, lawS w 1, lawS w 2, lawS w 3, lawS w 4, lawS w 5, lawS w 6, lawS w 7, lawS w 8, lawS w 9, lawS w 10, lawS w 11, lawS w 12, lawS w 13, lawS w 14, lawS w 15] := by
  kernel_rfl
structure LX where
  (aC aD aK : Addr) (oC : Obj) (vD vK : List Value) (nD nK : Nat) (o1 o2 o3 o4 o5 : Obj) (v1 v2 v3 v5 : Option Value) (ps : Array Value) (ys : List LE) (es : Array DictEntry) (ep : Nat) (tM : Tok)
abbrev LX.F (x : LX) (L : Addr) : List (Addr × Obj) := [(x.aC, x.oC), (x.aD, PySem.W.listOf x.vD.toArray x.nD), (x.aK, PySem.W.listOf x.vK.toArray x.nK), (L + 1, x.o1), (L + 2, x.o2), (L + 3, x.o3), (L + 4, x.o4), (L + 5, x.o5), (68, tabObj x.ps)]
abbrev LX.T (x : LX) (mk md : List (List Nat)) : List (List Value × List Dt) := [(lfV x.ys, lfT x.ys), (x.vD, btss md), (x.vK, btss mk)]
structure LD (prog : Program) (w : World) (m : Str → Option Value) (md : List (List Nat)) (kc : List (Int × Int)) (ls : List Int) (x : LX) : Prop where
  hK : m "makers" = some (.ref x.aK)
  hC : m "calls" = some (.ref x.aC)
  hM : m "many" = some (.int md.length x.tM)
  loC : (x.aC == sysModules) = false
  lf : LfO prog w x.oC x.ys x.es x.ep
  kc : lfC x.ys = kc
  c1 : x.o1.data = .cell x.v1
  c2 : x.o2.data = .cell x.v2
  c3 : x.o3.data = .cell x.v3
  c4 : x.o4.data = .cell (some (.ref x.aD))
  c5 : x.o5.data = .cell x.v5
  tab : TabOk x.ps ls
theorem LD.upd {prog : Program} {w : World} {m : Str → Option Value} {md : List (List Nat)} {kc : List (Int × Int)} {ls : List Int} {x : LX} (X : LD prog w m md kc ls x) {y : Str} {v : Value} (h1 : ("makers" : Str) ≠ y := by decide) (h2 : ("calls" : Str) ≠ y := by decide) (h3 : ("many" : Str) ≠ y := by decide) : LD prog w (upd m y v) md kc ls x :=
  { X with hK := upd_to X.hK h1, hC := upd_to X.hC h2, hM := upd_to X.hM h3 }
structure LS (prog : Program) (w : World) (g : Heap) (L : Addr) (h : Heap) (m : Str → Option Value) (mk md : List (List Nat)) (kc : List (Int × Int)) (ls : List Int) (x : LX) : Prop extends LD prog w m md kc ls x where
  W : Ws g L h m (x.F L) (x.T mk md)
abbrev cells (L : Addr) (o1 o2 o3 o4 o5 t : Obj) : List (Addr × Obj) := [(L + 1, o1), (L + 2, o2), (L + 3, o3), (L + 4, o4), (L + 5, o5), (68, t)]
section
variable {prog : Program} {w : World} {A : Around} {g : Heap} {L : Addr} {h : Heap} {tk : Nat} {r : Rst} {m : Str → Option Value} {Φ : List (Addr × Obj)} {T : List (List Value × List Dt)} {env : Env} {E : Value → Shared → Prop}
theorem exA {x : Str} {xp pos : Pos} {e : Expr} {φ : Heap → Value → Heap → Prop} {Q : Flow → Shared → Prop} (W : Ws g L h m Φ T) (hl : env.kindOf x = some .local) (hk : env.scope.kind = .function) (he : env.locals = L)
    (y : Ev prog w A h (eval e env) φ)
    (hW : ∀ v h₁, Le h h₁ → φ h v h₁ → ∃ Φ' T', Ws g L h₁ m Φ' T' ∧ ∀ h₂ tk₂, Ws g L h₂ (upd m x v) Φ' T' → Q .next (r.st h₂ tk₂))
    (hs : swapsWith e (some (.Name x xp)) pos.line env = pure false := by rfl) : wpAny (model prog w) A (exec (.Assign [.Name x xp] e pos) env) Q E (r.st h tk) := by
  have _ := W
  refine wpAny_Assign_Name (y r h tk _ _ (Le.refl _) fun v h₁ t₁ k₁ f₁ => ?_) hs
  obtain ⟨Φ', T', W', q⟩ := hW v h₁ k₁ f₁
  exact stL W' hl hk he fun h₂ t₂ W₂ => q h₂ t₂ W₂
/-- x, y = e₁, e₂: a cell and a local -/
theorem exA2 {x y : Str} {xp yp tp vp pos : Pos} {k₁ k₂ : Nat} {e₁ e₂ : Expr} {c : Addr} {φ ψ : Heap → Value → Heap → Prop} {Q : Flow → Shared → Prop} (hh : A.handled = none) (_W : Ws g L h m Φ T) (hx : env.kindOf x = some .cell) (hc : env.cells.lookup x = some c) (hy : env.kindOf y = some .local) (hk : env.scope.kind = .function) (he : env.locals = L)
    (u : Ev prog w A h (eval e₁ env) φ) (v : ∀ h₁ a, Le h h₁ → φ h a h₁ → Ev prog w A h₁ (eval e₂ env) ψ)
    (hW : ∀ a h₁ b h₂, Le h h₁ → φ h a h₁ → Le h₁ h₂ → ψ h₁ b h₂ → ∃ Φ' T' n o v₀, Φ'[n]? = some (c, o) ∧ o.data = .cell v₀ ∧ Ws g L h₂ m Φ' T' ∧ ∀ h₃ tk₃ o', o'.data = .cell (some a) → Ws g L h₃ (upd m y b) (Φ'.set n (c, o')) T' → Q .next (r.st h₃ tk₃))
    (hs : starEach [e₁, e₂] env = [(false, eval e₁ env), (false, eval e₂ env)] := by rfl)
    (hw : swappedStores [.Tuple [.Name x xp, .Name y yp] k₁ tp] (.Tuple [e₁, e₂] k₂ vp) env = pure none := by rfl) :
    wpAny (model prog w) A (exec (.Assign [.Tuple [.Name x xp, .Name y yp] k₁ tp] (.Tuple [e₁, e₂] k₂ vp) pos) env) Q E (r.st h tk) := by
  refine Assign_Tuple (Tuple2 hh u v (fun a h₁ b h₂ t h₃ tk₃ l₁ f₁ l₂ f₂ l₃ _ ht => ?_) hs) (by rfl) hw
  obtain ⟨Φ', T', n, o, v₀, e, hd, W', q⟩ := hW a h₁ b h₂ l₁ f₁ l₂ f₂
  refine assign_Tuple_tuple (items := #[a, b]) hh ht (by rfl) (by rfl) fun h₄ hx4 => ?_
  have W₄ : Ws g L h₄ m Φ' T' := W'.le (l₃.trans fun b o e => hx4 b o (fun z => by rw [z] at e; exact absurd (Heap.lt_size e) (Nat.lt_irrefl _)) e)
  refine assignInOrder_cons (t := assign (.Name x xp) env) (wpAny_assign_Name (stC W₄ n e hd hx hk hc fun h₅ t₅ o' ho' W₅ => ?_))
  exact assignInOrder_cons (t := assign (.Name y yp) env) (wpAny_assign_Name (stL W₅ hy hk he fun h₆ t₆ W₆ => assignInOrder_nil (q h₆ t₆ o' ho' W₆)))
end
section
variable {prog : Program} {w : World} {A : Around} {g : Heap} {L : Addr} {h : Heap} {tk : Nat} {r : Rst} {m : Str → Option Value} {E : Value → Shared → Prop} {o1 o2 o3 o4 o5 t : Obj}
theorem law0 (hh : A.handled = none) (hroom : A.depth + 10 < recursionLimit) (Bg : Bs w g) {ns : List Int} {a : Addr} {vs : List Value} (hL : g.IsList a vs.toArray) (hI : IntsAre vs ns) (hz : ns.length ≤ 64) (W : Ws g L h m (cells L o1 o2 o3 o4 o5 t) []) (hm : m "script" = some (.ref a)) {Q : Flow → Shared → Prop}
    (q : ∀ aK vK nK h' tk', Ws g L h' (upd m "makers" (.ref aK)) ((aK, PySem.W.listOf vK.toArray nK) :: cells L o1 o2 o3 o4 o5 t) [(vK, btss [drawS (ns.take 4), drawS ((ns.drop 4).take 4)])] → Q .next (r.st h' tk')) :
    wpAny (model prog w) A (exec (lawS w 0) (lawEnv w L)) Q E (r.st h tk) := by
  have B := Bg.le W.keep
  have hd : DVs h vs (ns.map Dt.int) := DVs.ofInts hI
  have hL' : h.IsList a vs.toArray := hL.at fun o e => W.keep _ o e
  have nm : ∀ pos, Ev prog w A h (eval (.Name "script" pos) (lawEnv w L)) (LV (ns.map Dt.int)) := fun pos => Ev.lname (.loc rfl rfl W.F.ns hm) hL' hd
  refine exA W rfl rfl rfl (Ev.list2 (d₁ := .bts (drawS (ns.take 4))) (d₂ := .bts (drawS ((ns.drop 4).take 4))) ?_ ?_) ?_
  · refine Ev.call1 (f := .ref 54) (φ := LT ((ns.take 4).map Dt.int)) (Ev.glob B rfl rfl rfl rfl) (fun _ k => keeps_fn (k _ _ (B.1 54 _ rfl)) rfl) ?_ ?_ Dn.dt
    · rw [List.map_take]
      exact Ev.sliceTo (b := 4) (nm _) Ev.cint (by simp; omega)
    · rintro h1 b h2 k1 k2 ⟨l, us, rfl, _, hl, hd2⟩
      exact draw_spec hh (by omega) (B.le (k1.trans k2)) hl.isList hd2 (by simp; omega)
  · refine Ev.call1 (f := .ref 54) (φ := LT (((ns.drop 4).take 4).map Dt.int)) (Ev.glob B rfl rfl rfl rfl) (fun _ k => keeps_fn (k _ _ (B.1 54 _ rfl)) rfl) ?_ ?_ Dn.dt
    · rw [List.map_take, List.map_drop]
      exact Ev.sliceFT (a := 4) (b := 8) (nm _) Ev.cint Ev.cint (by simp; omega)
    · rintro h1 b h2 k1 k2 ⟨l, us, rfl, _, hl, hd2⟩
      exact draw_spec hh (by omega) (B.le (k1.trans k2)) hl.isList hd2 (by simp; omega)
  · intro v h₁ k₁ f₁
    obtain ⟨aK, vK, nK, rfl, W₁⟩ := W.addL k₁ f₁
    exact ⟨_, _, W₁, fun h₂ t₂ W₂ => q aK vK nK h₂ t₂ W₂⟩
theorem law1 (hh : A.handled = none) (hroom : A.depth + 10 < recursionLimit) (Bg : Bs w g) {mk md : List (List Nat)} {aK : Addr} {vK : List Value} {nK : Nat} {v4 : Option Value} (W : Ws g L h m ((aK, PySem.W.listOf vK.toArray nK) :: cells L o1 o2 o3 o4 o5 t) [(vK, btss mk)]) (hm : m "makers" = some (.ref aK))
    (hs : madeS mk = some md) (hz : mk.length ≤ 100) (hlen : ∀ o ∈ mk, o.length ≤ 2 ^ 20) (c4 : o4.data = .cell v4) {Q : Flow → Shared → Prop}
    (q : ∀ aC aD vD nD o4' h' tk', (aC == sysModules) = false → o4'.data = .cell (some (.ref aD)) → Ws g L h' (upd m "calls" (.ref aC)) ((aC, { cls := .type "dict", data := .dict #[] }) :: (aD, PySem.W.listOf vD.toArray nD) :: (aK, PySem.W.listOf vK.toArray nK) :: cells L o1 o2 o3 o4' o5 t) [(vD, btss md), (vK, btss mk)] → Q .next (r.st h' tk')) :
    wpAny (model prog w) A (exec (lawS w 1) (lawEnv w L)) Q E (r.st h tk) := by
  have B := Bg.le W.keep
  refine exA2 (c := L + 4) (φ := LT (btss md)) hh W rfl rfl rfl rfl rfl ?_ (fun h₁ _ k₁ _ => Ev.dict0 (B.le k₁)) ?_
  · refine Ev.call1 (f := .ref 47) (φ := VE (.ref aK)) (Ev.glob B rfl rfl rfl rfl) (fun _ k => keeps_fn (k _ _ (B.1 47 _ rfl)) rfl) (Ev.name (.loc rfl rfl W.F.ns hm)) ?_ Dn.lt
    intro h1 b h2 k1 k2 e
    subst e
    have W2 := W.le (k1.trans k2)
    exact (made_spec hh (by omega) (B.le (k1.trans k2)) hs (W2.isL 0) (W2.dvs 0) hz hlen).mono fun h3 y h4 l1 l2 f => Dn.lt (k2.trans l1) f
  · rintro a h₁ b h₂ k₁ f₁ k₂ ⟨aC, rfl, lo, n2, e2⟩
    obtain ⟨aD, vD, nD, rfl, W₁⟩ := W.addL k₁ f₁
    have W₂ := W₁.add k₂ n2 e2
    exact ⟨_, _, 6, o4, v4, rfl, c4, W₂, fun h₃ t₃ o' ho' W₃ => q aC aD vD nD o' h₃ t₃ lo ho' W₃⟩
theorem law2 (Bg : Bs w g) {mk md : List (List Nat)} {aC aD aK : Addr} {vD vK : List Value} {nD nK : Nat} {ps : Array Value} {ls : List Int} {v1 v2 v3 v5 : Option Value} (W : Ws g L h m ((aC, { cls := .type "dict", data := .dict #[] }) :: (aD, PySem.W.listOf vD.toArray nD) :: (aK, PySem.W.listOf vK.toArray nK) :: cells L o1 o2 o3 o4 o5 (tabObj ps)) [(vD, btss md), (vK, btss mk)])
    (hm : m "makers" = some (.ref aK)) (hc : m "calls" = some (.ref aC)) (lo : (aC == sysModules) = false) (hz : md.length ≤ 2 ^ 10) (c1 : o1.data = .cell v1) (c2 : o2.data = .cell v2) (c3 : o3.data = .cell v3) (c4 : o4.data = .cell (some (.ref aD))) (c5 : o5.data = .cell v5) (ht : TabOk ps ls) {Q : Flow → Shared → Prop}
    (q : ∀ m' h' tk' x, LS prog w g L h' m' mk md [] ls x → Q .next (r.st h' tk')) :
    wpAny (model prog w) A (exec (lawS w 2) (lawEnv w L)) Q E (r.st h tk) := by
  have B := Bg.le W.keep
  refine exA W rfl rfl rfl (φ := DT (.int md.length)) ?_ ?_
  · have e := Ev.lenV (prog := prog) (A := A) (ds := btss md) (h₀ := h) (env := lawEnv w L) (pos := ⟨62, 11, 62, 20⟩) (func := .Name "len" ⟨62, 11, 62, 14⟩) (e := .Name "made" ⟨62, 15, 62, 19⟩) (Ev.boot B rfl rfl (by decide) rfl rfl rfl rfl) (Ev.lname (.cell rfl rfl (c := L + 4) rfl (W.isCell 6 c4)) (W.isL 1) (W.dvs 0)) (by simp [btss]; omega)
    rw [show (btss md).length = md.length by simp [btss]] at e
    exact e
  · intro v h₁ k₁ f₁
    cases f₁ with | int _ tM =>
    refine ⟨_, _, (W.le k₁).addT (vs := lfV []) (ds := lfT []) .nil, fun h₂ t₂ W₂ => ?_⟩
    exact q _ h₂ t₂ ⟨aC, aD, aK, _, vD, vK, nD, nK, o1, o2, o3, o4, o5, v1, v2, v3, v5, ps, [], #[], 0, tM⟩
      ⟨⟨upd_to hm (by decide), upd_to hc (by decide), upd_eq, lo, ⟨⟨rfl, rfl, rfl⟩, rfl, rfl, List.nodup_nil⟩, rfl, c1, c2, c3, c4, c5, ht⟩, W₂⟩
/-- 24 % many != 0 or _byteswap(makers[0], 4) != bytes(list(makers[0])[::-1]) -/
theorem law3 (hh : A.handled = none) (hroom : A.depth + 10 < recursionLimit) (Bg : Bs w g) {p0 : List Nat} {mr md : List (List Nat)} {kc : List (Int × Int)} {ls : List Int} {x : LX} (X : LS prog w g L h m (p0 :: mr) md kc ls x) (h4 : p0.length = 4) (hp : ∀ n ∈ p0, n < 256) (hmr : mr.length ≤ 100) (hmd : (24 : Int).fmod md.length = 0) (hmd0 : md.length ≠ 0) {Q : Flow → Shared → Prop}
    (q : ∀ h' tk', LS prog w g L h' m (p0 :: mr) md kc ls x → Q .next (r.st h' tk')) :
    wpC (model prog w) A (exec (lawS w 3) (lawEnv w L)) Q E (r.st h tk) := by
  have W := X.W
  have B := Bg.le W.keep
  have e0 : ∀ {h1}, Le h h1 → ∀ ps ps2 ps3, Ev prog w A h1 (eval (.Subscript (.Name "makers" ps) (.Constant (.int 0) 0 ps2) ps3) (lawEnv w L)) (DT (.bts p0)) := fun k _ _ _ =>
    Ev.itemL (l := x.aK) (vs := x.vK) (ds := btss (p0 :: mr)) (i := 0) (Ev.name (.loc rfl rfl (W.le k).F.ns X.hK)) ((W.le k).isL 2) ((W.le k).dvs 2) Ev.cint (by decide) (by decide) rfl
  refine wpC.If (wpC.isTrue_BoolOp (wpC.allTrue_Or_cons (wpC.of ?_)))
  refine (Ev.isCmp (φ := DT (.int 0)) (ψ := DT (.int 0)) (c := false) (whole := eval _ _) ?_ Ev.cint ?_) r h tk _ _ (Le.refl _) fun b h₁ t₁ k₁ f₁ => ?_
  · rw [← hmd]
    exact Ev.binI Ev.cint (Ev.dname (.loc rfl rfl W.F.ns X.hM) (.int _ _)) (BinI.mod (by omega))
  · intro h a h₁ b h₂ _ _ _ e e'
    cases e; cases e'
    exact neI
  subst f₁
  simp only [Bool.false_eq_true, if_false]
  have W₁ := W.le k₁
  have B₁ := Bg.le W₁.keep
  refine wpC.allTrue_Or_cons (wpC.isTrue_Compare1 ?_)
  refine EvC.call2 (f := .ref 21) (φ := DT (.bts p0)) (ψ := DT (.int 4)) (χ := DT (.bts p0.reverse)) (Ev.glob B₁ rfl rfl rfl rfl) (fun _ k => keeps_fn (k _ _ (B₁.1 21 _ rfl)) rfl) (e0 k₁ _ _ _) Ev.cint ?_ Dn.dt rfl rfl r h₁ t₁ _ _ (Le.refl _) fun v h₂ t₂ k₂ f₂ => ?_
  · intro h a h₁' b h₂ k k' k'' e e'
    exact swap_spec hh (by omega) (B₁.le (k.trans (k'.trans k''))) (DV.le k'' e) e' h4
  have W₂ := W₁.le k₂
  have B₂ := Bg.le W₂.keep
  refine Ev.bytesL (l := p0.reverse) hh (Ev.boot B₂ rfl rfl (by decide) rfl rfl rfl rfl) ?_ (fun n hn => hp n (List.mem_reverse.mp hn)) (by simp [h4]) rfl rfl r h₂ t₂ _ _ (Le.refl _) fun u h₃ t₃ k₃ f₃ => ?_
  · rw [List.map_reverse]
    refine Ev.sliceRev (Ev.lv (Ev.listB hh (Ev.boot B₂ rfl rfl (by decide) rfl rfl rfl rfl) (e0 (k₁.trans k₂) _ _ _) (by simp [h4]))) ?_ (by simp [h4])
    intro r h tk Q E k q
    exact wpAny_UnaryOp (Ev.cint (i := 1) r h tk _ E k fun v h1 t1 k1 f1 => by cases f1; exact neg_int (q _ _ _ k1 (.int _ _)))
  · refine neB (DV.le k₃ f₂) f₃ (b := true) (by simp) r h₃ t₃ _ _ (Le.refl _) fun v2 h₄ t₄ k₄ f₄ => ?_
    rw [show v2 = .bool false from f₄]
    refine wpAny_truthy_bool ?_
    simp only [Bool.false_eq_true, if_false]
    refine wpC.allTrue_Or_nil ?_
    simp only [Bool.false_eq_true, if_false]
    refine wpC.of (wpAny_execs_nil (q _ _ ?_))
    exact { X with W := W₂.le (k₃.trans k₄) }
end
end Mine

end
section
set_option maxRecDepth 100000
namespace Mine
open PySem PySem.W PySem.Calls PyProof.Rows
def Dt.nat : Dt → Nat
  | .int i => i.toNat
  | _ => 0
def Dt.bl : Dt → List Nat
  | .bts l => l
  | _ => []
def ints4 : List Dt := (List.range 4).map fun i => .int (Int.ofNat i)
/-- how many octets an order leaves -/
def fixN (o : List Nat) : Nat := ((List.range 4).filter fun k => o.getD k 0 == k).length
def callsS (md : List (List Nat)) : List (Int × Int) := md.foldl (fun kc o => addC kc (Int.ofNat (fixN o)) 1) []
def Ord (md : List (List Nat)) : Prop := ∀ o ∈ md, o.length = 4 ∧ ∀ x ∈ o, x < 4
theorem Ord.at {md : List (List Nat)} (x : Ord md) {o : List Nat} (h : o ∈ md) {k : Nat} (hk : k < 4) : o[k]? = some (o.getD k 0) ∧ o.getD k 0 < 4 := by
  obtain ⟨a, b⟩ := x o h
  have h1 : k < o.length := by omega
  have e : o.getD k 0 = o[k] := by simp [List.getD, h1]
  rw [e]
  exact ⟨List.getElem?_eq_getElem h1, b _ (List.getElem_mem h1)⟩
theorem beq_ofNat (a b : Nat) : ((Int.ofNat a : Int) == Int.ofNat b) = (a == b) := by
  rw [Bool.eq_iff_iff]; simp only [beq_iff_eq]; exact ⟨fun h => Int.ofNat.inj h, fun h => h ▸ rfl⟩
theorem addC_len (kc : List (Int × Int)) (n c : Int) : (addC kc n c).length ≤ kc.length + 1 := by
  unfold addC putC
  split <;> simp
theorem callsS_len (md : List (List Nat)) : (callsS md).length ≤ md.length := by
  have key : ∀ (l : List (List Nat)) (acc : List (Int × Int)), (l.foldl (fun kc o => addC kc (Int.ofNat (fixN o)) 1) acc).length ≤ acc.length + l.length := by
    intro l
    induction l with
    | nil => intro acc; simp
    | cons o l ih =>
      intro acc
      rw [List.foldl_cons, List.length_cons]
      have := ih (addC acc (Int.ofNat (fixN o)) 1)
      have := addC_len acc (Int.ofNat (fixN o)) 1
      omega
  have := key md []
  rw [List.length_nil, Nat.zero_add] at this
  exact this
theorem callsS_snoc (md : List (List Nat)) (o : List Nat) : callsS (md ++ [o]) = addC (callsS md) (Int.ofNat (fixN o)) 1 := by
  unfold callsS; rw [List.foldl_append]; rfl
theorem btss_get {md : List (List Nat)} {i : Nat} {d : Dt} (h : (btss md)[i]? = some d) : ∃ o, md[i]? = some o ∧ d = .bts o := by
  rw [List.getElem?_map] at h
  cases e : md[i]? with
  | none => rw [e] at h; cases h
  | some o => rw [e] at h; cases h; exact ⟨o, rfl, rfl⟩
theorem Ws.perm {g h : Heap} {L : Addr} {m : Str → Option Value} {Φ Φ' : List (Addr × Obj)} {T : List (List Value × List Dt)} (W : Ws g L h m Φ T) (p : Φ.Perm Φ') : Ws g L h m Φ' T := ⟨W.F, fun q hq => W.N q (p.mem_iff.mpr hq), (p.map _).nodup_iff.mp W.nd, W.T⟩
section
variable {prog : Program} {w : World} {A : Around} {h₀ : Heap} {env : Env}
/-- order[octet] == octet -/
theorem testFix {a b : Expr} {p1 p2 : Pos} {whole : Sem Value} {o : List Nat} {k n : Nat} (ha : Ev prog w A h₀ (eval a env) (DT (.bts o))) (hb : Ev prog w A h₀ (eval b env) (DT (.int (Int.ofNat k)))) {c : Expr} (hc : Ev prog w A h₀ (eval c env) (DT (.int (Int.ofNat n)))) (e : o[k]? = some (o.getD k 0)) (hl : o.length ≤ 2 ^ 20)
    (hs : ∀ bb t i ui, subscripted b false (.bytes bb t) (.int i ui) = operate [.bytes bb t, .int i ui] (getItem (.bytes bb t) (.int i ui)) := by intros; with_unfolding_all rfl)
    (ht : ∀ bb t r, letTemporaryGo a (.bytes bb t) r = Pure.pure () := by intros; with_unfolding_all rfl) (hm : behindInMarks .Eq c = false := by with_unfolding_all rfl) :
    Ev prog w A h₀ (isTrue (.Compare (.Subscript a b p1) [.Eq] [c] p2) env whole) (fun _ r _ => r = (o.getD k 0 == n)) := by
  refine Ev.isCmp (φ := DT (.int (Int.ofNat (o.getD k 0)))) (ψ := DT (.int (Int.ofNat n))) (Ev.itemB ha hb (by simp) (by simpa using e) hl hs ht) hc ?_ hm
  intro h x h₁ y h₂ _ _ _ ex ey
  cases ex; cases ey
  rw [← beq_ofNat]
  exact eqI
end
section
variable {prog : Program} {w : World} {A : Around} {g : Heap} {L : Addr} {h : Heap} {tk : Nat} {r : Rst} {m : Str → Option Value} {E : Value → Shared → Prop} {ls : List Int}
theorem law4 (hh : A.handled = none) (hroom : A.depth + 10 < recursionLimit) (hu : A.units + 200 < cLine) (Bg : Bs w g) {mk md : List (List Nat)} {x : LX} (X : LS prog w g L h m mk md [] ls x) (hmd : Ord md) (hz : md.length ≤ 2 ^ 9) {Q : Flow → Shared → Prop}
    (q : ∀ m' h' tk' x', LS prog w g L h' m' mk md (callsS md) ls x' → Q .next (r.st h' tk')) :
    wpAny (model prog w) A (exec (lawS w 4) (lawEnv w L)) Q NoE (r.st h tk) := by
  have W := X.W
  refine forListG (φ := VE (.ref x.aD)) hh W (Ev.name (.cell rfl rfl (c := L + 4) rfl (W.isCell 6 X.c4))) ?_ (fun _ => rfl)
  rintro y h₁ k₁ rfl
  refine ⟨x.aD, md.length, x.vD, x.F L, x.T mk md, fun n i vs m Φ T => n = md.length - i ∧ vs = x.vD ∧ ∃ x', LD prog w m md (callsS (md.take i)) ls x' ∧ x'.aD = x.aD ∧ x'.vD = x.vD ∧ Φ = x'.F L ∧ T = x'.T mk md, rfl, W.le k₁, ⟨rfl, rfl, x, X.toLD, rfl, rfl, rfl, rfl⟩, ?_, ?_, ?_⟩
  · rintro n i vs m Φ T H ⟨-, rfl, x', X', ea, ev, rfl, rfl⟩ W'
    rw [← ea, ← ev]
    exact W'.isL 1
  · rintro n i vs v m Φ T H tk I oI ⟨rfl, rfl, x', X', ea, ev, rfl, rfl⟩ hv W'
    obtain ⟨d, hd, hv'⟩ := (W'.dvs 1).get (v := v) (i := i) (by rw [ev]; exact hv)
    obtain ⟨o, ho, rfl⟩ := btss_get hd
    have hmem := List.mem_of_getElem? ho
    have hlt : i < md.length := (List.getElem?_eq_some_iff.mp ho).1
    refine wpAny_assign_Name (stC (c := L + 1) W' 4 rfl X'.c1 rfl rfl rfl fun h₂ t₂ o1' c1' W₂ => ?_)
    have B₂ := Bg.le W₂.keep
    have hv₂ : DV h₂ v (.bts o) := by
      obtain ⟨v', hv1, hv2⟩ := (W₂.dvs 1).at (d := .bts o) (i := i) (by rw [List.getElem?_map, ho]; rfl)
      rw [ev, hv] at hv1; cases hv1; exact hv2
    have cO : ∀ {h3}, Le h₂ h3 → h3.IsCell (L + 1) (some v) := fun k => (W₂.le k).isCell 4 c1'
    have hts : (md.take i).length ≤ md.length := by simp; omega
    refine asg1 (φ := DLf prog w (addC (callsS (md.take i)) (Int.ofNat (fixN o)) 1)) W₂ rfl rfl rfl ?_ ?_
    · refine Ev.call2 (f := .ref 28) (φ := VE (.ref x'.aC)) (ψ := DLf prog w [(Int.ofNat (fixN o), 1)]) (Ev.glob B₂ rfl rfl rfl rfl) (fun _ k => keeps_fn (k _ _ (B₂.1 28 _ rfl)) rfl) (Ev.name (.loc rfl rfl W₂.F.ns X'.hC)) ?_ ?_ Dn.dlf
      · refine Ev.dictLf B₂ (by omega) ?_ Ev.cint
        refine Ev.tup3 Ev.cstr ?_ Ev.cstr
        have ef : fixN o = (((List.range 4).filter fun k => o.getD k 0 == k).map fun k => Dt.int (Int.ofNat k)).length := by simp [fixN]
        rw [show (Dt.int (Int.ofNat (fixN o))) = Dt.int (((((List.range 4).filter fun k => o.getD k 0 == k).map fun k => Dt.int (Int.ofNat k)).length : Nat) : Int) by rw [ef]; rfl]
        refine Ev.lenL (Ev.boot B₂ rfl rfl (by decide) rfl rfl rfl rfl) ?_ (by simp only [List.length_map]; exact Nat.le_trans (List.length_filter_le _ _) (by simp))
        refine Ev.compE (ds := ints4) (fun d => o.getD d.nat 0 == d.nat) (fun d => d) (by simp [ints4, List.filter_map, Function.comp_def, Dt.nat]) rfl (by decide) rfl (by decide) rfl (by decide) (Sr.range1 hh (by decide) (Ev.boot B₂ rfl rfl (by decide) rfl rfl rfl rfl) Ev.cint) ?_ ?_
        · intro d hd C v2 h3 m3 k3 hv3 hn3 hm3
          obtain ⟨k, hk, rfl⟩ := List.mem_map.mp hd
          have hk4 := List.mem_range.mp hk
          refine tests_one (testFix (k := k) (n := k) (Ev.dname (.cell rfl rfl (c := L + 1) rfl (cO k3)) (hv₂.le k3)) (Ev.dname (.loc rfl rfl hn3 hm3) hv3) (Ev.dname (.loc rfl rfl hn3 hm3) hv3) (hmd.at hmem hk4).1 (by have := (hmd o hmem).1; omega))
        · intro d hd _ C v2 h3 m3 k3 hv3 hn3 hm3
          exact Ev.dname (.loc rfl rfl hn3 hm3) hv3
      · intro h3 a h4 b h5 k3 k4 k5 ea' eb
        subst ea'
        have W5 := W₂.le (k3.trans (k4.trans k5))
        refine (add_spec hh (by omega) (by omega) (Bg.le W5.keep) (kc := callsS (md.take i)) ⟨x'.aC, x'.oC, x'.ys, x'.es, x'.ep, rfl, X'.loC, W5.get 1, X'.lf, W5.dvs 0, X'.kc⟩ eb.1 ?_).mono fun h6 y h7 l1 l2 f => Dn.dlf (k4.trans (k5.trans l1)) f
        have := callsS_len (md.take i)
        omega
    · rintro v3 h₃ k₃ ⟨⟨d, oC, ys, es, ep, rfl, lo, hd', lf, hdv, hkc⟩, hn⟩
      have W₃ := (W₂.add k₃ (hn d rfl) hd').addT hdv
      have e0 : callsS (md.take (i + 1)) = addC (callsS (md.take i)) (Int.ofNat (fixN o)) 1 := by
        rw [List.take_add_one, ho]; exact callsS_snoc _ _
      have W₄ := W₃.sub (Φ' := [(d, oC), (I, oI), (x'.aD, PySem.W.listOf x'.vD.toArray x'.nD), (x'.aK, PySem.W.listOf x'.vK.toArray x'.nK), (L + 1, o1'), (L + 2, x'.o2), (L + 3, x'.o3), (L + 4, x'.o4), (L + 5, x'.o5), (68, tabObj x'.ps)]) (T' := [(lfV ys, lfT ys), (x'.vD, btss md), (x'.vK, btss mk)]) (.cons_cons _ (.cons_cons _ (.cons _ (.refl _)))) (fun p hp => by
        rcases List.mem_cons.mp hp with rfl | hp
        · exact .head _
        · exact .tail _ (.tail _ hp))
      refine ⟨_, _, W₄, fun h₄ t₄ W₅ => wpAny_execs_nil ?_⟩
      refine ⟨md.length - (i + 1), x.vD, upd m "calls" (.ref d), _, _, h₄, t₄, rfl, by omega, ⟨rfl, rfl, { x' with aC := d, oC := oC, ys := ys, es := es, ep := ep, o1 := o1', v1 := some v }, ?_, ea, ev, rfl, rfl⟩, ?_⟩
      · rw [e0]
        exact ⟨upd_to X'.hK (by decide), upd_eq, upd_to X'.hM (by decide), lo, lf, hkc, c1', X'.c2, X'.c3, X'.c4, X'.c5, X'.tab⟩
      · exact W₅.perm (.swap _ _ _)
  · rintro n i vs m Φ T H tk ⟨rfl, rfl, x', X', ea, ev, rfl, rfl⟩ hv W'
    have hl := (W'.dvs 1).length
    rw [ev] at hl
    simp only [btss, List.length_map] at hl
    have : md.length ≤ i := by have := List.getElem?_eq_none_iff.mp hv; omega
    rw [List.take_of_length_le this] at X'
    exact q _ _ _ x' ⟨X', W'⟩
end
end Mine

end
section
set_option maxRecDepth 100000
namespace Mine
open PySem PySem.W PySem.Calls PyProof.Rows
/-- how many orders lead octet k to n -/
def cnt (md : List (List Nat)) (k n : Nat) : Nat := (md.filter fun o => o.getD k 0 == n).length
def reachK (md : List (List Nat)) (k : Nat) : List Int := keysOf (md.map fun o => Int.ofNat (o.getD k 0))
theorem bits_small {n : Nat} (h : n < 2 ^ 63) : Builtin.Int.intBits (n : Int) ≤ 64 := by
  unfold Builtin.Int.intBits
  split
  · omega
  · rename_i h0
    have hn : n ≠ 0 := fun e => h0 (by simp [e])
    have := (Nat.log2_lt hn).mpr h
    simp only [Int.natAbs_natCast]
    omega
theorem mem_keysOf {l : List Int} {e : Int} (h : e ∈ keysOf l) : e ∈ l := by
  have key : ∀ (l acc : List Int), e ∈ l.foldl (fun acc k => if k ∈ acc then acc else acc ++ [k]) acc → e ∈ acc ∨ e ∈ l := by
    intro l
    induction l with
    | nil => intro acc h; exact .inl h
    | cons a l ih =>
      intro acc h
      rw [List.foldl_cons] at h
      rcases ih _ h with h | h
      · split at h
        · exact .inl h
        · rcases List.mem_append.mp h with h | h
          · exact .inl h
          · rw [List.mem_singleton] at h; exact .inr (h ▸ .head _)
      · exact .inr (.tail _ h)
  rcases key l [] h with h | h
  · cases h
  · exact h
theorem reach_lt {md : List (List Nat)} (hmd : Ord md) {k : Nat} (hk : k < 4) {e : Int} (h : e ∈ reachK md k) : ∃ n, n < 4 ∧ e = Int.ofNat n := by
  obtain ⟨o, ho, rfl⟩ := List.mem_map.mp (mem_keysOf h)
  exact ⟨_, (hmd.at ho hk).2, rfl⟩
section
variable {prog : Program} {w : World} {A : Around} {h₀ : Heap} {env : Env}
/-- len([order for order in made if order[a] == b]) -/
theorem cntE {md : List (List Nat)} {aD : Addr} {vD : List Value} {k n : Nat} {fp pe pt pm p0 pa p1 pb p2 pos cpos : Pos} {xa xb : Str} {scope : Scope} {cl : List (Str × Addr)} (hh : A.handled = none) (hmd : Ord md) (hz : md.length ≤ 2 ^ 9) (hk : k < 4)
    (hf : Ev prog w A h₀ (eval (.Name "len" fp) env) (VE (.builtin "len"))) (hm : Ev prog w A h₀ (eval (.Name "made" pm) env) (VE (.ref aD))) (hl : h₀.IsList aD vD.toArray) (hd : DVs h₀ vD (btss md))
    (ha : ∀ C h m, Le h₀ h → h.Ns C m → Ev prog w A h (eval (.Name xa pa) (compEnvC scope cl C env)) (DT (.int (Int.ofNat k))))
    (hb : ∀ C h m, Le h₀ h → h.Ns C m → Ev prog w A h (eval (.Name xb pb) (compEnvC scope cl C env)) (DT (.int (Int.ofNat n))))
    (hclos : closureFor scope env = Pure.pure cl) (hcell : ∀ y ∈ scope.names, y.2 ≠ .cell) (hkind : scope.kind = .function)
    (hnames : ∀ y ∈ scope.names, y.2 = .local → scope.names.lookup y.1 = some .local) (hx : scope.names.lookup ("order" : Str) = some .local)
    (hloc : ∀ C, (compEnvC scope cl C env).kindOf "order" = some .local) (hkind2 : ∀ C, (compEnvC scope cl C env).scope.kind = .function) (hlocals : ∀ C, (compEnvC scope cl C env).locals = C) :
    Ev prog w A h₀ (eval (.Call (.Name "len" fp) [.ListComp (.Name "order" pe) [⟨.Name "order" pt, .Name "made" pm, [.Compare (.Subscript (.Name "order" p0) (.Name xa pa) p1) [.Eq] [.Name xb pb] p2], 0⟩] scope pos] [] cpos) env) (DT (.int (cnt md k n))) := by
  have e : cnt md k n = (btss (md.filter fun o => o.getD k 0 == n)).length := by simp [cnt, btss]
  rw [e]
  refine Ev.lenL hf ?_ (by rw [← e]; exact Nat.le_trans (List.length_filter_le _ _) (by omega))
  refine Ev.compE (ds := btss md) (fun d => d.bl.getD k 0 == n) (fun d => d) (by simp [btss, List.filter_map, Function.comp_def, Dt.bl]) hclos hcell hkind hnames hx (by simp only [btss, List.length_map]; omega) (Sr.list hh hm hl hd) ?_ ?_
  · intro d hd C v h m kk hv hn hm
    obtain ⟨o, ho, rfl⟩ := List.mem_map.mp hd
    exact tests_one (testFix (k := k) (n := n) (Ev.dname (.loc (hkind2 C) (hloc C) (by rw [hlocals]; exact hn) hm) hv) (ha C h m kk hn) (hb C h m kk hn) (hmd.at ho hk).1 (by have := (hmd o ho).1; omega))
  · intro d hd _ C v h m kk hv hn hm
    exact Ev.dname (.loc (hkind2 C) (hloc C) (by rw [hlocals]; exact hn) hm) hv
end
section
variable {prog : Program} {w : World} {A : Around} {g : Heap} {L : Addr} {h : Heap} {tk : Nat} {r : Rst} {m : Str → Option Value} {E : Value → Shared → Prop} {ls : List Int}
theorem law5 (hh : A.handled = none) (hroom : A.depth + 10 < recursionLimit) (hu : A.units + 200 < cLine) (Bg : Bs w g) {mk md : List (List Nat)} {kc : List (Int × Int)} {x : LX} (X : LS prog w g L h m mk md kc ls x) (hmd : Ord md) (hz : md.length ≤ 2 ^ 9)
    (hG : ∀ k, k < 4 → ((reachK md k).length * cnt md k k = md.length ∧ ∀ n, n < 4 → Int.ofNat n ∈ reachK md k → cnt md k n = cnt md k k ∧ cnt md n n = cnt md k k)) {Q : Flow → Shared → Prop}
    (q : ∀ m' h' tk' x', LS prog w g L h' m' mk md kc ls x' → Q .next (r.st h' tk')) :
    wpAny (model prog w) A (exec (lawS w 5) (lawEnv w L)) Q NoE (r.st h tk) := by
  have W := X.W
  have B := Bg.le W.keep
  refine forRange (a := 0) (b := (4 : Nat)) (c := 1) (n₀ := 4) (fun i m Φ T => ∃ x', LD prog w m md kc ls x' ∧ Φ = x'.F L ∧ T = x'.T mk md) hh W
    (Ev.range1 (n := 4) (Ev.boot B rfl rfl (by decide) rfl rfl rfl rfl) Ev.cint) (fun _ _ _ x => x) (small_one (by omega) (by omega) (by omega) (by omega)) (rsize 4) ⟨x, X.toLD, rfl, rfl⟩ ?_ ?_
  · clear B W X
    rintro k t m Φ T H tk I oI ⟨x, X, rfl, rfl⟩ hk W
    have e0 : (0 : Int) + (k : Int) * 1 = Int.ofNat k := by simp
    rw [e0]
    obtain ⟨g1, g2⟩ := hG k hk
    refine wpAny_assign_Name (stC (c := L + 2) W 5 rfl X.c2 rfl rfl rfl fun h₁ t₁ o2 c2 W₁ => ?_)
    have B₁ := Bg.le W₁.keep
    have dO : ∀ {h'}, Le h₁ h' → h'.IsCell (L + 2) (some (.int (Int.ofNat k) t)) := fun kk => (W₁.le kk).isCell 5 c2
    -- reach
    refine asg1 (φ := DK prog w (reachK md k)) W₁ rfl rfl rfl ?_ ?_
    · refine Ev.dictP B₁ hh (Ev.boot B₁ rfl rfl (by decide) rfl rfl rfl rfl) ?_ (by simp; omega)
      rw [List.map_map]
      refine Ev.compN (ds := btss md) (fun d => .tup [.int (Int.ofNat (d.bl.getD k 0)), .int 1]) (by simp [btss, Dt.bl, Function.comp_def]) rfl (by decide) rfl (by decide) rfl (by simp only [btss, List.length_map]; omega)
        (Sr.list hh (Ev.name (.cell rfl rfl (c := L + 4) rfl (W₁.isCell 7 X.c4))) (W₁.isL 2) (W₁.dvs 1)) ?_
      intro d hd C v h m kk hv hn hm
      obtain ⟨o, ho, rfl⟩ := List.mem_map.mp hd
      exact Ev.tup2 hh (Ev.itemB (Ev.dname (.loc rfl rfl hn hm) hv) (Ev.dname (.cell rfl rfl (c := L + 2) rfl (dO kk)) (.int _ _)) (by simp) (by simpa [Dt.bl] using (hmd.at ho hk).1) (by have := (hmd o ho).1; omega)) Ev.cint
    · rintro v h₂ k₂ ⟨aR, oR, rfl, loR, nR, eR, KR⟩
      refine ⟨_, _, W₁.add k₂ nR eR, fun h₃ t₃ W₃ => ?_⟩
      have B₃ := Bg.le W₃.keep
      have iOc : ∀ {h'}, Le h₃ h' → h'.IsCell (L + 2) (some (.int (Int.ofNat k) t)) := fun kk => (W₃.le kk).isCell 6 c2
      -- left
      refine asg1 (φ := DT (.int (cnt md k k))) W₃ rfl rfl rfl ?_ ?_
      · exact cntE (cl := [("octet", L + 2)]) hh hmd hz hk (Ev.boot B₃ rfl rfl (by decide) rfl rfl rfl rfl) (Ev.name (.cell rfl rfl (c := L + 4) rfl (W₃.isCell 8 X.c4))) (W₃.isL 3) (W₃.dvs 1)
          (fun C h m kk hn => Ev.dname (.cell rfl rfl (c := L + 2) rfl (iOc kk)) (.int _ _)) (fun C h m kk hn => Ev.dname (.cell rfl rfl (c := L + 2) rfl (iOc kk)) (.int _ _)) rfl (by decide) rfl (by decide) rfl (fun _ => rfl) (fun _ => rfl) (fun _ => rfl)
      · rintro v h₄ k₄ f₄
        cases f₄ with | int _ tL =>
        refine ⟨_, _, W₃.le k₄, fun h₅ t₅ W₅ => ?_⟩
        have B₅ := Bg.le W₅.keep
        refine wpAny_execs_cons (exIfNo W₅ (Ev.neNo (a := ((reachK md k).length : Int) * (cnt md k k : Int)) (b := (md.length : Int)) ?_ (Ev.dname (.loc rfl rfl W₅.F.ns (upd_to (upd_to X.hM (by decide)) (by decide))) (.int _ _)) (by rw [← g1]; push_cast; rfl)) fun h₆ t₆ W₆ => ?_)
        · refine Ev.binI ?_ (Ev.dname (.loc rfl rfl W₅.F.ns upd_eq) (.int _ _)) (BinI.mul (bits_small (by have := keysOf_len (md.map fun o => Int.ofNat (o.getD k 0)); rw [List.length_map] at this; unfold reachK; omega)))
          refine Ev.call1 (f := .builtin "len") (φ := VE (.ref aR)) (Ev.boot B₅ rfl rfl (by decide) rfl rfl rfl rfl) (fun _ _ => keeps_builtin _) (Ev.name (.loc rfl rfl W₅.F.ns (upd_to upd_eq (by decide)))) ?_ Dn.dt
          intro h' a h'' k' k'' e
          subst e
          exact callLenK ((W₅.le (k'.trans k'')).get 0) loR KR (by have := keysOf_len (md.map fun o => Int.ofNat (o.getD k 0)); rw [List.length_map] at this; unfold reachK; omega)
        · refine wpAny_execs_cons ?_
          refine forKeys (d := aR) (o := oR) (ks := reachK md k) (fun j m Φ T => ∃ x', LD prog w m md kc ls x' ∧ x'.o2 = o2 ∧ m "left" = some (.int (cnt md k k) tL) ∧ m "reach" = some (.ref aR) ∧ Φ = (aR, oR) :: (I, oI) :: x'.F L ∧ T = x'.T mk md) hh W₆
            (Ev.name (.loc rfl rfl W₆.F.ns (upd_to upd_eq (by decide)))) loR KR ?_ ⟨{ x with o2 := o2, v2 := some (.int (Int.ofNat k) t) }, ⟨upd_to (upd_to X.hK (by decide)) (by decide), upd_to (upd_to X.hC (by decide)) (by decide), upd_to (upd_to X.hM (by decide)) (by decide), X.loC, X.lf, X.kc, X.c1, c2, X.c3, X.c4, X.c5, X.tab⟩, rfl, upd_eq, upd_to upd_eq (by decide), rfl, rfl⟩ ?_ ?_
          · rintro j m Φ T H ⟨x', X', rfl, hmL, hmR, rfl, rfl⟩ W'
            exact W'.get 0
          · clear W W₁ W₃ W₅ W₆ B₁ B₃ B₅ dO iOc X
            rintro j e te m Φ T H tk I₂ oI₂ ⟨x, X, rfl, hmL, hmR, rfl, rfl⟩ he W
            have hem := List.mem_of_getElem? he
            obtain ⟨n, hn4, rfl⟩ := reach_lt hmd hk hem
            obtain ⟨g3, g4⟩ := g2 n hn4 hem
            refine wpAny_assign_Name (stC (c := L + 3) W 8 rfl X.c3 rfl rfl rfl fun h₁ t₁ o3 c3 W₁ => ?_)
            have B₁ := Bg.le W₁.keep
            have iOc : ∀ {h'}, Le h₁ h' → h'.IsCell (L + 2) (some (.int (Int.ofNat k) t)) := fun kk => (W₁.le kk).isCell 7 c2
            have iOt : ∀ {h'}, Le h₁ h' → h'.IsCell (L + 3) (some (.int (Int.ofNat n) te)) := fun kk => (W₁.le kk).isCell 8 c3
            refine wpAny_execs_cons (exIfNo W₁ (orNo (Ev.neNo (a := (cnt md k n : Int)) (b := (cnt md k k : Int)) ?_ (Ev.dname (.loc rfl rfl W₁.F.ns hmL) (.int _ _)) (by rw [g3])) (Ev.neNo (a := (cnt md n n : Int)) (b := (cnt md k k : Int)) ?_ (Ev.dname (.loc rfl rfl W₁.F.ns hmL) (.int _ _)) (by rw [g4]))) fun h₂ t₂ W₂ => wpAny_execs_nil ?_)
            · exact cntE (cl := [("other", L + 3), ("octet", L + 2)]) hh hmd hz hk (Ev.boot B₁ rfl rfl (by decide) rfl rfl rfl rfl) (Ev.name (.cell rfl rfl (c := L + 4) rfl (W₁.isCell 9 X.c4))) (W₁.isL 4) (W₁.dvs 1)
                (fun C h m kk hn => Ev.dname (.cell rfl rfl (c := L + 2) rfl (iOc kk)) (.int _ _)) (fun C h m kk hn => Ev.dname (.cell rfl rfl (c := L + 3) rfl (iOt kk)) (.int _ _)) rfl (by decide) rfl (by decide) rfl (fun _ => rfl) (fun _ => rfl) (fun _ => rfl)
            · exact cntE (cl := [("other", L + 3)]) hh hmd hz hn4 (Ev.boot B₁ rfl rfl (by decide) rfl rfl rfl rfl) (Ev.name (.cell rfl rfl (c := L + 4) rfl (W₁.isCell 9 X.c4))) (W₁.isL 4) (W₁.dvs 1)
                (fun C h m kk hn => Ev.dname (.cell rfl rfl (c := L + 3) rfl (iOt kk)) (.int _ _)) (fun C h m kk hn => Ev.dname (.cell rfl rfl (c := L + 3) rfl (iOt kk)) (.int _ _)) rfl (by decide) rfl (by decide) rfl (fun _ => rfl) (fun _ => rfl) (fun _ => rfl)
            · exact ⟨m, _, _, h₂, t₂, rfl, ⟨{ x with o3 := o3, v3 := some (.int (Int.ofNat n) te) }, ⟨X.hK, X.hC, X.hM, X.loC, X.lf, X.kc, X.c1, X.c2, c3, X.c4, X.c5, X.tab⟩, rfl, hmL, hmR, rfl, rfl⟩, W₂⟩
          · rintro m Φ T H tk ⟨x', X', _, hmL, hmR, rfl, rfl⟩ W'
            exact wpAny_execs_nil ⟨m, _, _, H, tk, rfl, ⟨x', X', rfl, rfl⟩, W'.sub (.cons _ (.refl _)) fun _ p => p⟩
  · rintro m Φ T H tk ⟨x', X', rfl, rfl⟩ W'
    exact q _ _ _ x' ⟨X', W'⟩
end
end Mine

end
section
set_option maxRecDepth 100000
namespace Mine
open PySem PySem.W PySem.Calls PyProof.Rows
def leadO (md : List (List Nat)) : Dt → List Dt := fun d => md.map fun o => .int (Int.ofNat (o.getD d.nat 0))
theorem mem_ints4 {d : Dt} (h : d ∈ ints4) : ∃ k, k < 4 ∧ d = .int (Int.ofNat k) := by
  obtain ⟨k, hk, rfl⟩ := List.mem_map.mp h
  exact ⟨k, List.mem_range.mp hk, rfl⟩
section
variable {prog : Program} {w : World} {A : Around} {h₀ : Heap} {env : Env}
/-- [order[octet] for order in made] -/
theorem compO {md : List (List Nat)} {aD : Addr} {vD : List Value} {k : Nat} {y : Str} {pt pm p0 pa p1 pos : Pos} {scope : Scope} {cl : List (Str × Addr)} (hh : A.handled = none) (hmd : Ord md) (hz : md.length ≤ 2 ^ 9) (hk : k < 4)
    (hm : Ev prog w A h₀ (eval (.Name y pm) env) (VE (.ref aD))) (hl : h₀.IsList aD vD.toArray) (hd : DVs h₀ vD (btss md))
    (ha : ∀ C h m, Le h₀ h → h.Ns C m → Ev prog w A h (eval (.Name "octet" pa) (compEnvC scope cl C env)) (DT (.int (Int.ofNat k))))
    (hclos : closureFor scope env = Pure.pure cl) (hcell : ∀ y ∈ scope.names, y.2 ≠ .cell) (hkind : scope.kind = .function)
    (hnames : ∀ y ∈ scope.names, y.2 = .local → scope.names.lookup y.1 = some .local) (hx : scope.names.lookup ("order" : Str) = some .local)
    (hloc : ∀ C, (compEnvC scope cl C env).kindOf "order" = some .local) (hkind2 : ∀ C, (compEnvC scope cl C env).scope.kind = .function) (hlocals : ∀ C, (compEnvC scope cl C env).locals = C) :
    Ev prog w A h₀ (eval (.ListComp (.Subscript (.Name "order" p0) (.Name "octet" pa) p1) [⟨.Name "order" pt, .Name y pm, [], 0⟩] scope pos) env) (LT (leadO md (.int (Int.ofNat k)))) := by
  refine Ev.compN (ds := btss md) (fun d => .int (Int.ofNat (d.bl.getD k 0))) (by simp [leadO, btss, Dt.bl, Dt.nat, Function.comp_def]) hclos hcell hkind hnames hx (by simp only [btss, List.length_map]; omega) (Sr.list hh hm hl hd) ?_
  intro d hd C v h m kk hv hn hm
  obtain ⟨o, ho, rfl⟩ := List.mem_map.mp hd
  exact Ev.itemB (Ev.dname (.loc (hkind2 C) (hloc C) (by rw [hlocals]; exact hn) hm) hv) (ha C h m kk hn) (by simp) (by simpa [Dt.bl] using (hmd.at ho hk).1) (by have := (hmd o ho).1; omega)
end
theorem range_at68 {h₂ h₃ : Heap} {l : Addr} {a b c : Int} {t u v : Tok} {ps : Array Value} (e : h₂.get? 68 = some (tabObj ps)) (hx : Heap.ExtBut 68 h₂ h₃) (hr : IsRange h₂ l a b c t u v) : IsRange h₃ l a b c t u v := by
  refine hx _ _ (fun z => ?_) hr
  subst z
  have := hr.symm.trans e
  simp [tabObj] at this
section
variable {prog : Program} {w : World} {A : Around} {g : Heap} {L : Addr} {h : Heap} {tk : Nat} {r : Rst} {m : Str → Option Value} {E : Value → Shared → Prop} {ls : List Int} {p : Program} {loose : List Str} {mean : ExcName → Option Value} {mg mb : Str → Option Value}
theorem law6 (hh : A.handled = none) (hroom : A.depth + 10 < recursionLimit) (hu : A.units + 200 < cLine) (Bg : Bs w g) (TT : Top p loose mean mg mb g) (C : CodeHd g 70 68) {mk md : List (List Nat)} {kc : List (Int × Int)} {x : LX} (X : LS prog w g L h m mk md kc ls x) (hmd : Ord md) (hz : md.length ≤ 2 ^ 9) (hl : ((75 : Nat) : Int) ∉ ls)
    {N lots : Nat} (hs : lotsGo (leadO md) N ints4 0 = some lots) {Q : Flow → Shared → Prop}
    (q : ∀ t h' tk' x', LS prog w g L h' (upd m "lots" (.int lots t)) mk md kc (((75 : Nat) : Int) :: ls) x' → Q .next (r.st h' tk')) :
    wpAny (model prog w) A (exec (lawS w 6) (lawEnv w L)) Q E (r.st h tk) := by
  have W := X.W
  have B := Bg.le W.keep
  refine wpAny_Assign_Name (lotsE (c := L + 4) (x := "octet") (y := "made") (ls := ls) (ps := x.ps) (φ := fun _ y h' => ∃ l t u v, y = .ref l ∧ IsRange h' l 0 (4 : Nat) 1 t u v) (lead := leadO md) (N := N) (ds := ints4) (out := lots) hh (by omega) (by omega) Bg W TT C 8 rfl X.tab hl rfl rfl rfl rfl
    (Ev.glob B rfl rfl rfl rfl) (Ev.range1 (n := 4) (Ev.boot B rfl rfl (by decide) rfl rfl rfl rfl) Ev.cint) hs ?_ (fun _ _ _ _ => rfl) rfl rfl rfl rfl ?_ ?_ ?_ (by decide) ?_) rfl
  · rintro h₁ u h₂ k₁ ⟨l, t, u', v, rfl, hr⟩ env' h₃ ps' e68 hx W'
    exact callListR hh (range_at68 e68 hx hr) (by decide)
  · intro d hd a env' f c' h₁ L' h₂ ps' hv k₁ W₁ hc
    obtain ⟨k, hk, rfl⟩ := mem_ints4 hd
    have W₂ := W₁.le k₁
    refine compO (cl := [("octet", L' + 1)]) hh hmd hz hk (Ev.name (.free rfl rfl (c := L + 4) rfl (W₂.isCell 6 X.c4) (by decide))) (W₂.isL 1) (W₂.dvs 1) (fun C h m kk hn => Ev.dname (.cell rfl rfl (c := L' + 1) rfl (hc.keeps kk)) (hv.le (k₁.trans kk))) rfl (by decide) rfl (by decide) rfl (fun _ => rfl) (fun _ => rfl) (fun _ => rfl)
  · intro d hd
    obtain ⟨k, hk, rfl⟩ := mem_ints4 hd
    rfl
  · intro d hd e he
    obtain ⟨o, ho, rfl⟩ := List.mem_map.mp he
    rfl
  · intro t h' tk' ps' ht' W'
    refine stL W' rfl rfl rfl fun h₂ t₂ W₂ => ?_
    exact q t h₂ t₂ { x with ps := ps' } ⟨⟨upd_to X.hK (by decide), upd_to X.hC (by decide), upd_to X.hM (by decide), X.loC, X.lf, X.kc, X.c1, X.c2, X.c3, X.c4, X.c5, ht'⟩, W₂⟩
end
end Mine

end
section
set_option maxRecDepth 100000
namespace Mine
open PySem PySem.W PySem.Calls PyProof.Rows
theorem range_getD {α β : Type} (F : α → β) (d : α) (l : List α) : (List.range l.length).map (fun i => F (l.getD i d)) = l.map F := by
  apply List.ext_getElem?
  intro i
  by_cases h : i < l.length
  · simp [h, List.getD]
  · simp [h]
section
variable {prog : Program} {w : World} {A : Around} {h₀ : Heap} {env : Env}
/-- sum([elt for word, often in calls.items()]) -/
theorem itemsE {kc : List (Int × Int)} {d : Addr} {o : Obj} {ys : List LE} {es : Array DictEntry} {ep : Nat} (gf : Int × Int → Int) {elt eo : Expr} {fp pa pb tp apos cpos pos spos : Pos} {kk : Nat} {scope : Scope} {cl : List (Str × Addr)} (hh : A.handled = none)
    (ho : h₀.get? d = some o) (lo : (d == sysModules) = false) (x : LfO prog w o ys es ep) (hd : DVs h₀ (lfV ys) (lfT ys)) (hkc : lfC ys = kc) (hz : kc.length ≤ 2 ^ 10)
    (hf : Ev prog w A h₀ (eval (.Name "sum" fp) env) (VE (.builtin "sum"))) (he : Ev prog w A h₀ (eval eo env) (VE (.ref d)))
    (hclos : closureFor scope env = Pure.pure cl) (hcell : ∀ y ∈ scope.names, y.2 ≠ .cell) (hkind : scope.kind = .function)
    (hnames : ∀ y ∈ scope.names, y.2 = .local → scope.names.lookup y.1 = some .local) (hxa : scope.names.lookup ("word" : Str) = some .local) (hxb : scope.names.lookup ("often" : Str) = some .local)
    (helt : ∀ y ∈ kc, ∀ u t C h m, Le h₀ h → h.Ns C m → m "word" = some u → DV h u (lfD y.1) → m "often" = some (.int y.2 t) → Ev prog w A h (eval elt (compEnvC scope cl C env)) (DT (.int (gf y))))
    (hbase : attributeBase eo "items" env (eval eo env) = eval eo env := by rfl) (hline : (apos.endLine == cpos.line) = true := by decide)
    (hs : ∀ x, foldedSetIterable (.Call (.Attribute eo "items" apos) [] [] cpos) env x = Pure.pure x := by intro _; rfl) :
    Ev prog w A h₀ (eval (.Call (.Name "sum" fp) [.ListComp elt [⟨.Tuple [.Name "word" pa, .Name "often" pb] kk tp, .Call (.Attribute eo "items" apos) [] [] cpos, [], 0⟩] scope pos] [] spos) env) (DT (.int (kc.map gf).sum)) := by
  refine Ev.sumL hh hf ?_
  have hsz : es.size = kc.length := by rw [x.size, ← hkc]; simp [lfC]
  have e : (kc.map gf).map Dt.int = (List.range es.size).map (fun i => Dt.int (gf (kc.getD i (0, 0)))) := by
    rw [hsz, range_getD (fun y => Dt.int (gf y))]; simp
  rw [e]
  refine Ev.compItems (d := d) (es := es) (ep := ep) _ hh he (x.raw ho) lo hclos hcell hkind hnames hxa hxb (by decide) (by rw [hsz]; omega) ?_ hbase hline hs
  intro i e he' C h m k hn hma hmb
  obtain ⟨y, hy, ek, ev⟩ := x.at he'
  have hky : kc[i]? = some (y.1, y.2.2.1) := by rw [← hkc, lfC, List.getElem?_map, hy]; rfl
  have hg : kc.getD i (0, 0) = (y.1, y.2.2.1) := by simp [List.getD, hky]
  rw [hg]
  refine helt (y.1, y.2.2.1) (List.mem_of_getElem? hky) _ y.2.2.2 C h m k hn hma ?_ (by rw [hmb, ev])
  rw [ek]
  obtain ⟨v', hv', hd'⟩ := hd.at (i := i) (d := lfD y.1) (by simp [lfT, List.getElem?_map, hy])
  have : v' = .ref y.2.1 := by simp [lfV, List.getElem?_map, hy] at hv'; exact hv'.symm
  subst this
  exact hd'.le k
end
section
variable {prog : Program} {w : World} {A : Around} {g : Heap} {L : Addr} {h : Heap} {tk : Nat} {r : Rst} {m : Str → Option Value} {E : Value → Shared → Prop} {ls : List Int}
theorem LS.isLf {mk md : List (List Nat)} {kc : List (Int × Int)} {x : LX} (X : LS prog w g L h m mk md kc ls x) : IsLf prog w h (.ref x.aC) kc :=
  ⟨x.aC, x.oC, x.ys, x.es, x.ep, rfl, X.loC, X.W.get 0, X.lf, X.W.dvs 0, X.kc⟩
theorem small_nat {i : Int} (h : ∃ n : Nat, n ≤ 2 ^ 20 ∧ i = n) : Builtin.Int.intBits i ≤ 64 := by
  obtain ⟨n, hn, rfl⟩ := h
  exact bits_small (by omega)
theorem law7 (hh : A.handled = none) (hroom : A.depth + 10 < recursionLimit) (Bg : Bs w g) {mk md : List (List Nat)} {kc : List (Int × Int)} {x : LX} (X : LS prog w g L h m mk md kc ls x) {lots : Nat} {tl : Tok} (hm : m "lots" = some (.int lots tl)) (hz : kc.length ≤ 2 ^ 10) (hkc : ∀ y ∈ kc, ∃ n : Nat, n ≤ 4 ∧ y.1 = n) (hlots : lots ≤ 2 ^ 20)
    (h1 : sumC kc = md.length) (h2 : (kc.map fun y => y.1 * y.2).sum = lots * md.length) {Q : Flow → Shared → Prop}
    (q : ∀ h' tk', LS prog w g L h' m mk md kc ls x → Q .next (r.st h' tk')) :
    wpAny (model prog w) A (exec (lawS w 7) (lawEnv w L)) Q E (r.st h tk) := by
  have W := X.W
  have B := Bg.le W.keep
  refine exIfNo W (orNo (Ev.neNo (a := sumC kc) (b := md.length) ?_ (Ev.dname (.loc rfl rfl W.F.ns X.hM) (.int _ _)) h1) (Ev.neNo (a := (kc.map fun y => y.1 * y.2).sum) (b := (lots : Int) * md.length) ?_ ?_ h2)) fun h₂ t₂ W₂ => q _ _ { X with W := W₂ }
  · refine Ev.call1 (f := .ref 35) (φ := VE (.ref x.aC)) (Ev.glob B rfl rfl rfl rfl) (fun _ k => keeps_fn (k _ _ (B.1 35 _ rfl)) rfl) (Ev.name (.loc rfl rfl W.F.ns X.hC)) ?_ Dn.dt
    intro h1 b h2 k1 k2 e
    subst e
    exact count_spec hh (by omega) (B.le (k1.trans k2)) (X.isLf.le (k1.trans k2))
  · refine itemsE (fun y => y.1 * y.2) hh (W.get 0) X.loC X.lf (W.dvs 0) X.kc hz (Ev.boot B rfl rfl (by decide) rfl rfl rfl rfl) (Ev.name (.loc rfl rfl W.F.ns X.hC)) rfl (by decide) rfl (by decide) rfl rfl ?_
    intro y hy u t C h m k hn hw hu ho
    obtain ⟨n, hn4, en⟩ := hkc y hy
    exact Ev.binI (Ev.itemT (d := .int y.1) (i := 1) (Ev.dname (.loc rfl rfl hn hw) hu) Ev.cint (by decide) rfl (by simp)) (Ev.dname (.loc rfl rfl hn ho) (.int _ t)) (BinI.mul (small_nat ⟨n, by omega, en⟩))
  · exact Ev.binI (Ev.dname (.loc rfl rfl W.F.ns hm) (.int _ _)) (Ev.dname (.loc rfl rfl W.F.ns X.hM) (.int _ _)) (BinI.mul (small_nat ⟨lots, hlots, rfl⟩))
theorem law10 (hh : A.handled = none) (Bg : Bs w g) {mk md : List (List Nat)} {kc : List (Int × Int)} {x : LX} (X : LS prog w g L h m mk md kc ls x) {pairs : Nat} {tl : Tok} (hm : m "pairs" = some (.int pairs tl)) (hz : kc.length ≤ 2 ^ 10) (hkc : ∀ y ∈ kc, ∃ n : Nat, n ≤ 4 ∧ y.1 = n) (hpairs : pairs ≤ 2 ^ 20)
    (h2 : (kc.map fun y : Int × Int => (y.1 ^ 2 * y.2 : Int)).sum = (pairs : Int) * (md.length : Int)) {Q : Flow → Shared → Prop}
    (q : ∀ h' tk', LS prog w g L h' m mk md kc ls x → Q .next (r.st h' tk')) :
    wpAny (model prog w) A (exec (lawS w 10) (lawEnv w L)) Q E (r.st h tk) := by
  have W := X.W
  have B := Bg.le W.keep
  refine exIfNo W (Ev.neNo (a := (kc.map fun y => y.1 ^ 2 * y.2).sum) (b := (pairs : Int) * md.length) ?_ ?_ h2) fun h₂ t₂ W₂ => q _ _ { X with W := W₂ }
  · refine itemsE (fun y => y.1 ^ 2 * y.2) hh (W.get 0) X.loC X.lf (W.dvs 0) X.kc hz (Ev.boot B rfl rfl (by decide) rfl rfl rfl rfl) (Ev.name (.loc rfl rfl W.F.ns X.hC)) rfl (by decide) rfl (by decide) rfl rfl ?_
    intro y hy u t C h m k hn hw hu ho
    obtain ⟨n, hn4, en⟩ := hkc y hy
    have hb := small_nat (i := y.1) ⟨n, by omega, en⟩
    refine Ev.binI (a := y.1 ^ 2) (Ev.binI (b := 2) (c := y.1 ^ 2) (Ev.itemT (d := .int y.1) (i := 1) (Ev.dname (.loc rfl rfl hn hw) hu) Ev.cint (by decide) rfl (by simp)) Ev.cint (BinI.pow (by decide) (by omega))) (Ev.dname (.loc rfl rfl hn ho) (.int _ t)) (BinI.mul (small_nat ⟨n ^ 2, ?_, by rw [en]; push_cast; rfl⟩))
    exact Nat.le_trans (Nat.pow_le_pow_left hn4 2) (by decide)
  · exact Ev.binI (Ev.dname (.loc rfl rfl W.F.ns hm) (.int _ _)) (Ev.dname (.loc rfl rfl W.F.ns X.hM) (.int _ _)) (BinI.mul (small_nat ⟨pairs, hpairs, rfl⟩))
end
end Mine

end
section
set_option maxRecDepth 100000
namespace Mine
open PySem PySem.W PySem.Calls PyProof.Rows
abbrev rgIt (a c : Int) (n i : Nat) : Obj := { cls := .type "range_iterator", data := .fields #[rawInt (a + (i : Int) * c), rawInt ((n : Int) - (i : Int)), rawInt c] }
section
variable {prog : Program} {w : World} {A : Around} {g : Heap} {L : Addr} {h : Heap} {tk : Nat} {r : Rst} {m : Str → Option Value} {Φ : List (Addr × Obj)} {T : List (List Value × List Dt)} {env : Env} {E : Value → Shared → Prop} {R : Result → Shared → Prop}
/-- the turns of a list comprehension over a range -/
theorem rangeLoop {elt : Expr} {gens : List Comprehension} {scope : Scope} {pos ps px : Pos} {k : Nat} {I : Addr} {acc : Value} {x : Str} {em : Sem Unit} {a c : Int} {n₀ : Nat} (J : RInv) (hh : A.handled = none)
    (hturn : compTurn (.ListComp elt gens scope pos) k (.ref I) acc env = (standAt ps >>= fun _ => pyNext (.ref I) >>= fun r => match r with
      | none => Pure.pure (.done .next)
      | some v => assign (.Name x px) env v >>= fun _ => em >>= fun _ => again (.compLoop (.ListComp elt gens scope pos) k (.ref I) acc env)))
    (W : Ws g L h m ((I, rgIt a c n₀ 0) :: Φ) T) (hJ : J 0 m Φ T)
    (turn : ∀ i t m Φ T H tk oI, J i m Φ T → i < n₀ → Ws g L H m ((I, oI) :: Φ) T →
      wpAny (model prog w) A (assign (.Name x px) env (.int (a + (i : Int) * c) t)) (fun _ s₂ => wpAny (model prog w) A em (fun _ s₃ => ∃ m' Φ' T' H' tk', s₃ = r.st H' tk' ∧ J (i + 1) m' Φ' T' ∧ Ws g L H' m' ((I, oI) :: Φ') T') NoE s₂) NoE (r.st H tk))
    (done : ∀ m Φ T H tk oI, J n₀ m Φ T → Ws g L H m ((I, oI) :: Φ) T → ∀ H', Heap.ExtBut I H H' → Ws g L H' m Φ T → R (.ok .next) (r.st H' tk)) :
    codeAny (model prog w) A (.compLoop (.ListComp elt gens scope pos) k (.ref I) acc env) R (r.st h tk) := by
  refine codeAny_loop rfl (fun n s => ∃ i m Φ T H tk, s = r.st H tk ∧ i ≤ n₀ ∧ n = n₀ - i ∧ J i m Φ T ∧ Ws g L H m ((I, rgIt a c n₀ i) :: Φ) T) (fun n s hI => ?_) n₀ ⟨0, m, Φ, T, h, tk, rfl, Nat.zero_le _, rfl, hJ, W⟩
  show wpAny _ A ((compTurn (.ListComp elt gens scope pos) k (.ref I) acc env).onRaise (fun x => do noteFrame x env; theTreesLotGoes x)) _ _ s
  refine wpAny_noted ?_
  rw [hturn]
  clear hJ W
  obtain ⟨i, m, Φ, T, H, tk, rfl, hi, rfl, hJ', W'⟩ := hI
  have D := W'.N (_, _) (.head _)
  have hit : IsRangeIter H I (a + (i : Int) * c) ((n₀ : Int) - (i : Int)) c := D.1
  refine wpAny_bind (wpAny_standAt (wpAny_bind ?_))
  by_cases hlt : i < n₀
  · refine wpAny_pyNext_range_item hit (by omega) fun h₂ hit₂ hs₂ => ?_
    have e1 : a + ((i + 1 : Nat) : Int) * c = a + (i : Int) * c + c := by push_cast; rw [Int.add_mul, Int.one_mul, Int.add_assoc]
    have e2 : (n₀ : Int) - ((i + 1 : Nat) : Int) = (n₀ : Int) - (i : Int) - 1 := by push_cast; omega
    have W₂ : Ws g L h₂ m ((I, rgIt a c n₀ (i + 1)) :: Φ) T := by
      unfold rgIt
      rw [e1, e2]
      exact W'.setAt (n := 0) rfl hs₂ hit₂ (fun xs k _ q => by cases q)
    refine wpAny_bind (wpAny_mono (turn i _ m Φ T h₂ _ _ hJ' hlt W₂) (fun _ s₂ q => wpAny_bind (wpAny_mono q (fun _ s₃ z => ?_) fun _ _ z => z.elim)) fun _ _ z => z.elim)
    obtain ⟨m', Φ', T', H', tk', rfl, hJ'', W''⟩ := z
    exact wpAny_pure ⟨rfl, n₀ - (i + 1), by omega, i + 1, m', Φ', T', H', tk', rfl, hlt, rfl, hJ'', W''⟩
  · have : i = n₀ := by omega
    subst this
    refine wpAny_pyNext_range_end hh hit (by omega) fun h₂ k₂ => wpAny_pure ?_
    exact done _ _ _ _ _ _ hJ' W' h₂ k₂ (W'.rest k₂ (fun xs k _ q => by cases q))
theorem start1 {elt : Expr} {g0 : Comprehension} {target iter : Expr} {ifs : List Expr} {rest : List Comprehension} {scope : Scope} {pos : Pos} {it acc : Value} {s : Shared}
    (h0 : codeAny (model prog w) A (.compLoop (.ListComp elt (g0 :: ⟨target, iter, ifs, 0⟩ :: rest) scope pos) 1 it acc env) R s)
    (h : wpAny (model prog w) A (pyIter it) (fun it' s' => codeAny (model prog w) A (.compLoop (.ListComp elt (g0 :: ⟨target, iter, ifs, 0⟩ :: rest) scope pos) 1 it' acc env) R s')
      (notedBy (model prog w) A env fun x s' => R (.error x) s') s) :
    codeAny (model prog w) A (.compStart (.ListComp elt (g0 :: ⟨target, iter, ifs, 0⟩ :: rest) scope pos) 1 it acc env) R s := by
  refine codeAny_of_tree ?_
  show wpAny _ _ ((compStart (.ListComp elt (g0 :: ⟨target, iter, ifs, 0⟩ :: rest) scope pos) 1 it acc env).onRaise (fun x => do noteFrame x env; standAt theWindowsPlace)) _ _ s
  refine wpAny_notedAt ?_
  unfold compStart
  show wpAny _ _ (ask >>= _) _ _ s
  refine wpAny_bind (wpAny_askSetting (wpAny_ite ?_))
  split
  · first
      | exact wpAny_bind (wpAny_pure (wpAny_pure (And.intro rfl h0)))
      | exact wpAny_pure (And.intro rfl h0)
  · first
      | exact wpAny_bind (wpAny_rule (wpAny_bind (wpAny_standAt (wpAny_bind (wpAny_mono h (fun it' s' h' => wpAny_pure (And.intro rfl h')) fun _ _ x => x)))))
      | (refine wpAny_bind (wpAny_rule ?_); show wpAny _ _ (standAt iter.pos >>= _) _ _ s; exact wpAny_bind (wpAny_standAt (wpAny_bind (wpAny_mono h (fun it' s' h' => wpAny_pure (And.intro rfl h')) fun _ _ x => x))))
/-- l.append(v) of the machine's own, within a comprehension -/
theorem emitE {elt : Expr} {l : Addr} {vs : List Value} {k : Nat} {ds : List Dt} {d : Dt} {Q : Unit → Shared → Prop} (W : Ws g L h m Φ T) (n : Nat) (hn : Φ[n]? = some (l, PySem.W.listOf vs.toArray k)) (hd : DVs h vs ds) (hz : vs.length ≤ 2 ^ 20)
    (he : Ev prog w A h (eval elt env) (DT d))
    (q : ∀ v h' tk' k', Ws g L h' m (Φ.set n (l, PySem.W.listOf (vs ++ [v]).toArray k')) T → DVs h' (vs ++ [v]) (ds ++ [d]) → Q () (r.st h' tk')) :
    wpAny (model prog w) A (do let _ ← call (.builtin "list.append") [.ref l, ← eval elt env]) Q E (r.st h tk) := by
  refine wpAny_bind (he r h tk _ E (Le.refl _) fun v h₁ t₁ k₁ f₁ => ?_)
  have W₁ := W.le k₁
  have e₁ := W₁.get n hn
  refine wpAny_bind (wpAny_list_append_plain ⟨k, e₁⟩ (fun h₂ hl₂ hs₂ => ?_) (size_le_of (by simpa using hz)))
  obtain ⟨k₂, e₂⟩ := hl₂
  have t2 : TK h₁ h₂ := TK.pl ⟨k, e₁⟩ hs₂.extBut
  refine wpAny_pure (q v h₂ _ k₂ (W₁.setAt hn hs₂ (by simpa using e₂) (fun xs k c _ => absurd c (by simp))) (((hd.le k₁).snoc f₁).tk t2))
end
end Mine

end
section
set_option maxRecDepth 100000
namespace Mine
open PySem PySem.W PySem.Calls PyProof.Rows
theorem turn_one (elt i1 : Expr) (x : Str) (px : Pos) (scope : Scope) (pos : Pos) (it acc : Value) (env : Env) :
    compTurn (.ListComp elt [⟨.Name x px, i1, [], 0⟩] scope pos) 0 it acc env = (standAt i1.pos >>= fun _ => pyNext it >>= fun r => match r with
      | none => Pure.pure (.done .next)
      | some v => assign (.Name x px) env v >>= fun _ => (do let _ ← call (.builtin "list.append") [acc, ← eval elt env]) >>= fun _ => again (.compLoop (.ListComp elt [⟨.Name x px, i1, [], 0⟩] scope pos) 0 it acc env)) := by rfl
abbrev em2 (elt : Expr) (gens : List Comprehension) (scope : Scope) (pos : Pos) (i2 : Expr) (acc : Value) (env : Env) : Sem Unit :=
  eval i2 env >>= fun x => standAt i2.pos >>= fun _ => foldedSetIterable i2 env x >>= fun x => holding [x] (pyIter x) >>= fun it => runOwn (.compStart (.ListComp elt gens scope pos) 1 it acc env) env >>= fun _ => Pure.pure ()
theorem turn_two0' (elt i1 t2 i2 : Expr) (x : Str) (px : Pos) (scope : Scope) (pos : Pos) (it acc : Value) (env : Env) :
    compTurn (.ListComp elt [⟨.Name x px, i1, [], 0⟩, ⟨t2, i2, [], 0⟩] scope pos) 0 it acc env = (standAt i1.pos >>= fun _ => pyNext it >>= fun r => match r with
      | none => Pure.pure (.done .next)
      | some v => assign (.Name x px) env v >>= fun _ => eval i2 env >>= fun x' => standAt i2.pos >>= fun _ => foldedSetIterable i2 env x' >>= fun x' => holding [x'] (pyIter x') >>= fun it' =>
        runOwn (.compStart (.ListComp elt [⟨.Name x px, i1, [], 0⟩, ⟨t2, i2, [], 0⟩] scope pos) 1 it' acc env) env >>= fun _ => again (.compLoop (.ListComp elt [⟨.Name x px, i1, [], 0⟩, ⟨t2, i2, [], 0⟩] scope pos) 0 it acc env)) := by rfl
theorem turn_two0 (elt i1 t2 i2 : Expr) (x : Str) (px : Pos) (scope : Scope) (pos : Pos) (it acc : Value) (env : Env) :
    compTurn (.ListComp elt [⟨.Name x px, i1, [], 0⟩, ⟨t2, i2, [], 0⟩] scope pos) 0 it acc env = (standAt i1.pos >>= fun _ => pyNext it >>= fun r => match r with
      | none => Pure.pure (.done .next)
      | some v => assign (.Name x px) env v >>= fun _ => em2 elt [⟨.Name x px, i1, [], 0⟩, ⟨t2, i2, [], 0⟩] scope pos i2 acc env >>= fun _ => again (.compLoop (.ListComp elt [⟨.Name x px, i1, [], 0⟩, ⟨t2, i2, [], 0⟩] scope pos) 0 it acc env)) := by
  rw [turn_two0']; simp only [em2, bind_assoc, pure_bind]
theorem turn_two1 (elt i2 : Expr) (g1 : Comprehension) (x : Str) (px : Pos) (scope : Scope) (pos : Pos) (it acc : Value) (env : Env) :
    compTurn (.ListComp elt [g1, ⟨.Name x px, i2, [], 0⟩] scope pos) 1 it acc env = (standAt i2.pos >>= fun _ => pyNext it >>= fun r => match r with
      | none => Pure.pure (.done .next)
      | some v => assign (.Name x px) env v >>= fun _ => (do let _ ← call (.builtin "list.append") [acc, ← eval elt env]) >>= fun _ => again (.compLoop (.ListComp elt [g1, ⟨.Name x px, i2, [], 0⟩] scope pos) 1 it acc env)) := by rfl
section
variable {prog : Program} {w : World} {A : Around} {g : Heap} {L : Addr} {h : Heap} {tk : Nat} {r : Rst} {m : Str → Option Value} {Φ : List (Addr × Obj)} {T : List (List Value × List Dt)} {env : Env} {E : Value → Shared → Prop}
theorem Ws.put (W : Ws g L h m Φ T) {a : Addr} {o : Obj} (e : h.get? a = some o) (hL : a ≠ L) (hg : g.get? a = none) (hf : a ∉ Φ.map (·.1)) : Ws g L h m ((a, o) :: Φ) T :=
  ⟨W.F, fun p hp => by
    rcases List.mem_cons.mp hp with rfl | hp
    · exact ⟨e, hL, hg⟩
    · exact W.N p hp, List.nodup_cons.mpr ⟨hf, W.nd⟩, W.T⟩
theorem Ws.apart (W : Ws g L h m Φ T) {a : Addr} (n : h.get? a = none) : a ≠ L ∧ g.get? a = none ∧ a ∉ Φ.map (·.1) := by
  refine ⟨fun q => ?_, none_of_le W.keep n, fun q => ?_⟩
  · obtain ⟨o', _, _, e', _⟩ := W.F.ns
    rw [q, e'] at n; cases n
  · obtain ⟨p, hp, rfl⟩ := List.mem_map.mp q
    rw [(W.N p hp).1] at n; cases n
/-- the list that a comprehension made is given its name, before the comprehension's names go -/
theorem useTail {y : Str} {py : Pos} {D C : Addr} {H : Heap} {vs : List Value} {k : Nat} {ds : List Dt} {m' : Str → Option Value} {Q : Flow → Shared → Prop} (Wo : Ws g L h m Φ T) (kH : Le h H) (eD : H.get? D = some (PySem.W.listOf vs.toArray k)) (hd : DVs H vs ds) (nD : h.get? D = none) (hC : H.Ns C m') (nC : h.get? C = none) (hCD : C ≠ D)
    (hy : env.kindOf y = some .local) (hk : env.scope.kind = .function) (he : env.locals = L)
    (q : ∀ h' tk', Ws g L h' (upd m y (.ref D)) ((D, PySem.W.listOf vs.toArray k) :: Φ) ((vs, ds) :: T) → Q .next (r.st h' tk')) :
    compPost (model prog w) A E (some (assign (.Name y py) env)) (fun _ s' => Q .next s') (.ref D) C (.ok .next) (r.st H tk) := by
  have W₁ := Wo.le kH
  obtain ⟨d1, d2, d3⟩ := Wo.apart nD
  obtain ⟨c1, c2, c3⟩ := Wo.apart nC
  have W₂ := (W₁.put eD d1 d2 d3).addT hd
  obtain ⟨oC, es, ep, e, hdC, hrest⟩ := hC
  have W₃ := W₂.put e c1 c2 (fun z => by
    rcases List.mem_cons.mp z with z | z
    · exact hCD z
    · exact c3 z)
  show wpAny _ A (assign (.Name y py) env (.ref D)) _ _ _
  refine wpAny_assign_Name (stL W₃ hy hk he fun h₂ t₂ W₄ => ⟨m', ⟨oC, es, ep, W₄.get 0, hdC, hrest⟩, fun h₃ hs₃ => ?_⟩)
  exact q h₃ t₂ (W₄.rest hs₃.extBut fun xs k' _ q' => by rw [hdC] at q'; cases q')
/-- up to the first turn of a comprehension over a range, no cell -/
theorem compSet0 {elt iter : Expr} {gens : List Comprehension} {scope : Scope} {pos : Pos} {cl : List (Str × Addr)} {n : Nat} {RR : Value → Addr → Result → Shared → Prop} (hn : n < 2 ^ 40)
    (hcell : ∀ y ∈ scope.names, y.2 ≠ .cell) (hkind : scope.kind = .function)
    (hi : Ev prog w A h (eval iter env) (fun _ y h' => ∃ l t u v, y = .ref l ∧ IsRange h' l 0 n 1 t u v))
    (cont : ∀ I D C H tk m₀ g', Le h g' → h.get? D = none → h.get? C = none → C ≠ D → Ws g' C H m₀ [(I, rgIt 0 1 n 0), (D, PySem.W.listOf ([] : List Value).toArray 0)] [] → codeAny (model prog w) A (.compStart (.ListComp elt gens scope pos) 0 (.ref I) (.ref D) (compEnvC scope cl C env)) (RR (.ref D) C) (r.st H tk)) :
    wpAny (model prog w) A (eval iter env) (fun x s₁ => wpAny (model prog w) A (pyIter x) (fun it s₂ => wpAny (model prog w) A (newList []) (fun acc s₃ =>
      wpAny (model prog w) A (newFunctionEnv scope env.globals cl [] env.qual none .none (some env)) (fun cenv s₄ =>
        codeAny (model prog w) A (.compStart (.ListComp elt gens scope pos) 0 it acc { cenv with scope := relabel scope env }) (RR acc cenv.locals) s₄) E s₃) E s₂) E s₁) E (r.st h tk) := by
  refine hi r h tk _ E (Le.refl _) fun y h₁ t₁ k₁ ⟨l, a1, a2, a3, ey, hr⟩ => ?_
  subst ey
  refine wpAny_pyIter_range hr (small_one (by omega) (by omega) (by omega) (by omega)) ?_
  rw [rsize]
  have kp2 := Le.push h₁ ({ cls := .type "range_iterator", data := .fields #[rawInt 0, rawInt n, rawInt 1] } : Obj)
  have hI := Heap.get?_push_size h₁ (o := ({ cls := .type "range_iterator", data := .fields #[rawInt 0, rawInt n, rawInt 1] } : Obj)) rfl
  have nI := none_of_le k₁ (fresh_size h₁)
  generalize hG2 : h₁.push ({ cls := .type "range_iterator", data := .fields #[rawInt 0, rawInt n, rawInt 1] } : Obj) = h₂ at kp2 hI
  have ltI := Heap.lt_size hI
  refine wpAny_newObj_type (wpAny_newFunctionEnv hcell (by intro y hy; simp at hy) (fun h₄ hns₄ hsb₄ => ?_) hkind)
  dsimp only at hns₄ hsb₄ ⊢
  have hDg : (h₂.push { cls := .type "list", dict := none, data := .seq ([] : List Value).toArray }).get? h₂.objs.size = some { cls := .type "list", dict := none, data := .seq ([] : List Value).toArray } := Heap.get?_push_size _ rfl
  have kp3 : Le h₂ (h₂.push { cls := .type "list", dict := none, data := .seq ([] : List Value).toArray }) := Le.push _ _
  have nD : h.get? h₂.objs.size = none := none_of_le (k₁.trans kp2) (fresh_size h₂)
  generalize hG3 : h₂.push { cls := .type "list", dict := none, data := .seq ([] : List Value).toArray } = h₃ at hns₄ hsb₄ hDg kp3
  have ltD := Heap.lt_size hDg
  have nC : h.get? h₃.objs.size = none := none_of_le (k₁.trans (kp2.trans kp3)) (fresh_size h₃)
  have up : ∀ b o, h₃.get? b = some o → h₄.get? b = some o := fun b o e => hsb₄.extBut b o (Nat.ne_of_lt (Heap.lt_size e)) (Heap.get?_push_of_some _ e)
  have kg : Le h (hideAll h₃ [h₁.objs.size, h₂.objs.size]) := fun b o e => hideAll_get _ (kp3 _ _ (kp2 _ _ (k₁ _ _ e))) (fun z => by
    rcases List.mem_cons.mp z with rfl | z
    · rw [nI] at e; cases e
    · rw [List.mem_singleton] at z
      subst z
      rw [nD] at e; cases e)
  refine cont h₁.objs.size h₂.objs.size h₃.objs.size h₄ _ _ _ kg nD nC (Nat.ne_of_gt ltD) ⟨⟨hns₄, fun b o e => up b o (of_hideAll _ e), Nat.le_of_eq (hideAll_size _ _)⟩, fun p hp => ?_, ?_, fun p hp => by cases hp⟩
  · simp only [List.mem_cons, List.not_mem_nil, or_false] at hp
    rcases hp with rfl | rfl
    · refine ⟨?_, Nat.ne_of_lt (Nat.lt_trans ltI ltD), hideAll_none _ (.head _)⟩
      have := up _ _ (kp3 _ _ hI)
      simpa [rgIt] using this
    · exact ⟨up _ _ hDg, Nat.ne_of_lt ltD, hideAll_none _ (.tail _ (.head _))⟩
  · simp [Nat.ne_of_lt ltI]
end
end Mine

end
section
set_option maxRecDepth 100000
namespace Mine
open PySem PySem.W PySem.Calls PyProof.Rows
def twoD (a b : Nat) : Dt := .tup [.int (Int.ofNat a), .int (Int.ofNat b)]
def twosUp (i : Nat) : List Dt := (List.range i).flatMap fun a => (List.range 4).map (twoD a)
theorem twosUp_succ (i : Nat) : twosUp (i + 1) = twosUp i ++ (List.range 4).map (twoD i) := by
  simp [twosUp, List.range_succ, List.flatMap_append]
theorem twosUp_len (i : Nat) : (twosUp i).length = i * 4 := by
  induction i with
  | zero => rfl
  | succ i ih => rw [twosUp_succ, List.length_append, ih]; simp; omega
section
variable {prog : Program} {w : World} {A : Around} {g : Heap} {L : Addr} {h : Heap} {tk : Nat} {r : Rst} {m : Str → Option Value} {Φ : List (Addr × Obj)} {T : List (List Value × List Dt)} {env : Env} {E : Value → Shared → Prop}
theorem asgUse {y : Str} {py pos spos : Pos} {elt : Expr} {g : Comprehension} {gs : List Comprehension} {scope : Scope} {cl : List (Str × Addr)} {Q : Flow → Shared → Prop} {s : Shared}
    (hsw : swapsWith (.ListComp elt (g :: gs) scope pos) (some (.Name y py)) spos.line env = Pure.pure true) (hs : ∀ x, foldedSetIterable g.iter env x = Pure.pure x) (hclos : closureFor scope env = Pure.pure cl)
    (hkind : scope.kind = .function) (hnames : ∀ x ∈ scope.names, x.2 = .local → scope.names.lookup x.1 = some .local) (ha : g.is_async = 0)
    (h : wpAny (model prog w) A (eval g.iter env) (fun x s₁ => wpAny (model prog w) A (pyIter x) (fun it s₂ => wpAny (model prog w) A (newList []) (fun acc s₃ =>
      wpAny (model prog w) A (newFunctionEnv scope env.globals cl [] env.qual none .none (some env)) (fun cenv s₄ =>
        codeAny (model prog w) A (.compStart (.ListComp elt (g :: gs) scope pos) 0 it acc { cenv with scope := relabel scope env }) (compPost (model prog w) A E (some (assign (.Name y py) env)) (fun _ s' => Q .next s') acc cenv.locals) s₄) E s₃) E s₂) E s₁) E s) :
    wpAny (model prog w) A (exec (.Assign [.Name y py] (.ListComp elt (g :: gs) scope pos) spos) env) Q E s := by
  rw [exec_Assign_Name_used _ _ _ _ hsw]
  refine wpAny_bind (wpAny_standAt (wpAny_bind ?_))
  obtain ⟨t, it, ifs, asy⟩ := g
  simp only at ha
  subst ha
  show wpAny _ A (do let _ ← comprehension (.ListComp elt (⟨t, it, ifs, 0⟩ :: gs) scope pos) scope env _ (newList []) false (eval it env) (some (assign (.Name y py) env))) _ _ s
  exact wpAny_bind (wpAny_mono (wpAny_comprehension_free (use := some (assign (.Name y py) env)) (Q := fun _ s' => Q .next s') rfl hs hclos hkind hnames h) (fun _ s' hq => wpAny_pure (wpAny_pure hq)) fun _ _ e => e)
theorem start0R {elt target iter : Expr} {ifs : List Expr} {rest : List Comprehension} {scope : Scope} {pos : Pos} {I : Addr} {acc : Value} {s : Shared} {R : Result → Shared → Prop} {a b c : Int} (hit : IsRangeIter s.heap I a b c)
    (h0 : codeAny (model prog w) A (.compLoop (.ListComp elt (⟨target, iter, ifs, 0⟩ :: rest) scope pos) 0 (.ref I) acc env) R s) : codeAny (model prog w) A (.compStart (.ListComp elt (⟨target, iter, ifs, 0⟩ :: rest) scope pos) 0 (.ref I) acc env) R s :=
  codeAny_compStart_list h0 (wpAny_pyIter_rangeiter hit h0)
theorem start1R {elt : Expr} {g0 : Comprehension} {target iter : Expr} {ifs : List Expr} {rest : List Comprehension} {scope : Scope} {pos : Pos} {I : Addr} {acc : Value} {s : Shared} {R : Result → Shared → Prop} {a b c : Int} (hit : IsRangeIter s.heap I a b c)
    (h0 : codeAny (model prog w) A (.compLoop (.ListComp elt (g0 :: ⟨target, iter, ifs, 0⟩ :: rest) scope pos) 1 (.ref I) acc env) R s) : codeAny (model prog w) A (.compStart (.ListComp elt (g0 :: ⟨target, iter, ifs, 0⟩ :: rest) scope pos) 1 (.ref I) acc env) R s :=
  start1 h0 (wpAny_pyIter_rangeiter hit h0)
theorem Ws.swapT {vs : List Value} {ds : List Dt} (W : Ws g L h m Φ ((vs, ds) :: T)) {vs' : List Value} {ds' : List Dt} (x : DVs h vs' ds') : Ws g L h m Φ ((vs', ds') :: T) :=
  (W.addT x).sub (List.Sublist.refl _) fun p hp => by
    rcases List.mem_cons.mp hp with rfl | hp
    · exact .head _
    · exact .tail _ (.tail _ hp)
theorem law8 (hh : A.handled = none) (Bg : Bs w g) (W : Ws g L h m Φ T) {Q : Flow → Shared → Prop}
    (q : ∀ D vs k h' tk', Ws g L h' (upd m "twos" (.ref D)) ((D, PySem.W.listOf vs.toArray k) :: Φ) ((vs, twosUp 4) :: T) → Q .next (r.st h' tk')) :
    wpAny (model prog w) A (exec (lawS w 8) (lawEnv w L)) Q E (r.st h tk) := by
  have B := Bg.le W.keep
  refine asgUse (cl := []) rfl (fun _ => rfl) rfl rfl (by decide) rfl (compSet0 (n := 4) (by decide) (by decide) rfl (Ev.range1 (n := 4) (Ev.boot B rfl rfl (by decide) rfl rfl rfl rfl) Ev.cint) fun I D C H tk m₀ g' kg nD nC hCD Wc => ?_)
  have hit : IsRangeIter H I ((0 : Int) + ((0 : Nat) : Int) * 1) (((4 : Nat) : Int) - ((0 : Nat) : Int)) 1 := (Wc.N _ (.head _)).1
  refine start0R hit ?_
  · refine rangeLoop (a := 0) (c := 1) (n₀ := 4) (fun i m Φ T => ∃ vs k, Φ = [(D, PySem.W.listOf vs.toArray k)] ∧ T = [(vs, twosUp i)]) hh (turn_two0 _ _ _ _ _ _ _ _ _ _ _) (Wc.addT (vs := []) (ds := []) .nil) ⟨[], 0, rfl, rfl⟩ ?_ ?_
    · clear hit Wc
      rintro i t m Φ T H tk oI ⟨vs, k, rfl, rfl⟩ hi W'
      refine wpAny_assign_Name (stL W' rfl rfl rfl fun h₁ t₁ W₁ => ?_)
      have B₁ := B.le (kg.trans W₁.keep)
      refine wpAny_bind (Ev.range1 (n := 4) (Ev.boot B₁ rfl rfl (by decide) rfl rfl rfl rfl) Ev.cint rfl rfl r h₁ t₁ _ _ (Le.refl _) fun y h₂ t₂ k₂ f₂ => ?_)
      obtain ⟨l, b1, b2, b3, rfl, hr⟩ := f₂
      refine wpAny_bind (wpAny_standAt (wpAny_bind (m := foldedSetIterable _ _ _) (wpAny_of_eq (a := Value.ref l) rfl (wpAny_bind (wpAny_holding (wpAny_pyIter_range hr (small_one (by omega) (by omega) (by omega) (by omega)) ?_))))))
      rw [rsize]
      have W₂ := (W₁.le k₂).add (Le.push _ _) (fresh_size _) (Heap.get?_push_size h₂ (o := ({ cls := .type "range_iterator", data := .fields #[rawInt 0, rawInt (4 : Nat), rawInt 1] } : Obj)) rfl)
      have hit₂ : IsRangeIter (h₂.push ({ cls := .type "range_iterator", data := .fields #[rawInt 0, rawInt (4 : Nat), rawInt 1] } : Obj)) h₂.objs.size 0 4 1 := Heap.get?_push_size _ rfl
      refine wpAny_bind (wpAny_runOwn ?_)
      refine start1R hit₂ ?_
      · refine rangeLoop (a := 0) (c := 1) (n₀ := 4) (fun j m Φ T => m "one" = some (.int (0 + (i : Int) * 1) t) ∧ ∃ vs k, Φ = [(I, oI), (D, PySem.W.listOf vs.toArray k)] ∧ T = [(vs, twosUp i ++ (List.range j).map (twoD i))]) hh (turn_two1 _ _ _ _ _ _ _ _ _ _) (by simpa [rgIt] using W₂) ⟨upd_eq, vs, k, rfl, by simp⟩ ?_ ?_
        · clear W₂ hit₂ W₁ W' hr
          rintro j u m Φ T H tk oJ ⟨hm, vs, k, rfl, rfl⟩ hj W'
          refine wpAny_assign_Name (stL W' rfl rfl rfl fun h₁ t₁ W₁ => ?_)
          have hvl := (W₁.dvs 0).length
          have hvs : vs.length ≤ 2 ^ 20 := by rw [hvl, List.length_append, twosUp_len]; simp; omega
          have e0 : (0 : Int) + (i : Int) * 1 = Int.ofNat i := by simp
          have e1 : (0 : Int) + (j : Int) * 1 = Int.ofNat j := by simp
          rw [e1] at W₁
          rw [e0] at hm
          refine emitE (d := twoD i j) W₁ 2 rfl (W₁.dvs 0) hvs (Ev.tup2 hh (Ev.dname (.loc rfl rfl W₁.F.ns (upd_to hm (by decide))) (.int _ t)) (Ev.dname (.loc rfl rfl W₁.F.ns upd_eq) (.int _ u))) fun v h₂ t₂ k₂ W₂ hd₂ => ?_
          refine ⟨upd m "other" (.int (Int.ofNat j) u), _, _, h₂, t₂, rfl, ⟨by rw [e0]; exact upd_to hm (by decide), vs ++ [v], k₂, rfl, rfl⟩, ?_⟩
          rw [List.range_succ, List.map_append, ← List.append_assoc]
          exact W₂.swapT hd₂
        · rintro m Φ T H tk oJ ⟨hm, vs, k, rfl, rfl⟩ W' H' kH W''
          rw [← twosUp_succ] at W''
          exact wpAny_pure ⟨m, _, _, H', tk, rfl, ⟨vs, k, rfl, rfl⟩, W''⟩
    · rintro m' Φ' T' H tk oI ⟨vs, k, rfl, rfl⟩ W' H' kH W''
      exact useTail W (kg.trans W''.keep) (W''.get 0) (W''.dvs 0) nD W''.F.ns nC hCD rfl rfl rfl fun h' tk' Wq => q D vs k h' tk' Wq
end
end Mine

end
section
set_option maxRecDepth 100000
namespace Mine
open PySem PySem.W PySem.Calls PyProof.Rows
def rowD (a : Nat) : Dt := .tup ((List.range 4).map fun k => .int (Int.ofNat (a / 2 ^ k % 2)))
def rowsUp (i : Nat) : List Dt := (List.range i).map rowD
theorem rowsUp_succ (i : Nat) : rowsUp (i + 1) = rowsUp i ++ [rowD i] := by simp [rowsUp, List.range_succ]
theorem row_div : ∀ a, a < 16 → ∀ k, k < 4 → Builtin.divisionGoesByPylong (Int.ofNat a) ((2 : Int) ^ (Int.ofNat k).toNat) = false := by decide +kernel
theorem row_pow : ∀ k, k < 4 → (Builtin.Int.intBits 2 : Int) * Int.ofNat k ≤ 2 ^ 27 := by decide +kernel
theorem row_val : ∀ a, a < 16 → ∀ k, k < 4 → ((Int.ofNat a).fdiv ((2 : Int) ^ (Int.ofNat k).toNat)).fmod 2 = Int.ofNat (a / 2 ^ k % 2) := by decide +kernel
theorem row_ne : ∀ k, k < 4 → ((2 : Int) ^ (Int.ofNat k).toNat) ≠ 0 := by decide +kernel
section
variable {M : Model} {A : Around} {E : Value → Shared → Prop} {s : Shared}
theorem cell_env {outer : Env} {scope : Scope} {n0 x n2 n3 : Str} {globals : Addr} {qual : Str} {code : Value} {builtins : Addr} {Q : Env → Shared → Prop} (hn : scope.names = [(n0, .local), (x, .cell), (n2, .globalImplicit), (n3, .globalImplicit)])
    (h : ∀ h', Le s.heap h' → h'.Ns s.heap.objs.size (fun _ => none) → h'.get? (s.heap.objs.size + 1) = some { cls := .type "cell", data := .cell none } → Q (newEnv scope s.heap.objs.size globals [(x, s.heap.objs.size + 1)] qual none code (some outer) builtins) { s with heap := h' }) :
    wpAny M A (newFunctionEnv scope globals [] [] qual none code (some outer) builtins) Q E s := by
  unfold newFunctionEnv
  rw [hn]
  simp only [Option.isSome_some, if_true]
  refine wpAny_bind (wpAny_alloc ?_)
  have hs1 : (s.heap.push { cls := .type "dict", data := .dict #[] }).objs.size = s.heap.objs.size + 1 := Heap.size_push _ _
  rw [List.forIn_cons]
  simp only [show ((NameKind.local == NameKind.cell) = false) from rfl, Bool.false_eq_true, if_false]
  refine wpAny_bind (wpAny_bind (wpAny_pure ?_))
  dsimp only
  rw [List.forIn_cons]
  simp only [show ((NameKind.cell == NameKind.cell) = true) from rfl, if_true]
  refine wpAny_bind (wpAny_bind (wpAny_alloc (wpAny_pure ?_)))
  dsimp only
  rw [List.forIn_cons]
  simp only [show ((NameKind.globalImplicit == NameKind.cell) = false) from rfl, Bool.false_eq_true, if_false]
  refine wpAny_bind (wpAny_pure ?_)
  dsimp only
  rw [List.forIn_cons]
  simp only [show ((NameKind.globalImplicit == NameKind.cell) = false) from rfl, Bool.false_eq_true, if_false]
  refine wpAny_bind (wpAny_pure ?_)
  dsimp only
  rw [List.forIn_nil]
  refine wpAny_pure ?_
  rw [List.forIn_nil]
  refine wpAny_bind (wpAny_pure (wpAny_pure ?_))
  have e := h _ (fun b o e => Heap.get?_push_of_some _ (Heap.get?_push_of_some _ e)) ((Heap.Ns.new s.heap (.type "dict")).keeps fun b o e => Heap.get?_push_of_some _ e) (hs1 ▸ Heap.get?_push_size (s.heap.push { cls := .type "dict", data := .dict #[] }) (o := ({ cls := .type "cell", data := .cell none } : Obj)) rfl)
  rw [hs1]
  exact e
end
section
variable {prog : Program} {w : World} {A : Around} {g : Heap} {L : Addr} {h : Heap} {tk : Nat} {r : Rst} {m : Str → Option Value} {Φ : List (Addr × Obj)} {T : List (List Value × List Dt)} {env : Env} {E : Value → Shared → Prop}
/-- the same with one cell -/
theorem compSetC {elt iter : Expr} {gens : List Comprehension} {scope : Scope} {pos : Pos} {n : Nat} {n0 x n2 n3 : Str} {RR : Value → Addr → Result → Shared → Prop} (hn : n < 2 ^ 40)
    (hnm : scope.names = [(n0, .local), (x, .cell), (n2, .globalImplicit), (n3, .globalImplicit)])
    (hi : Ev prog w A h (eval iter env) (fun _ y h' => ∃ l t u v, y = .ref l ∧ IsRange h' l 0 n 1 t u v))
    (cont : ∀ I D C H tk g', Le h g' → h.get? D = none → h.get? C = none → C ≠ D → Ws g' C H (fun _ => none) [(I, rgIt 0 1 n 0), (D, PySem.W.listOf ([] : List Value).toArray 0), (C + 1, { cls := .type "cell", data := .cell none })] [] → codeAny (model prog w) A (.compStart (.ListComp elt gens scope pos) 0 (.ref I) (.ref D) (compEnvC scope [(x, C + 1)] C env)) (RR (.ref D) C) (r.st H tk)) :
    wpAny (model prog w) A (eval iter env) (fun x s₁ => wpAny (model prog w) A (pyIter x) (fun it s₂ => wpAny (model prog w) A (newList []) (fun acc s₃ =>
      wpAny (model prog w) A (newFunctionEnv scope env.globals [] [] env.qual none .none (some env)) (fun cenv s₄ =>
        codeAny (model prog w) A (.compStart (.ListComp elt gens scope pos) 0 it acc { cenv with scope := relabel scope env }) (RR acc cenv.locals) s₄) E s₃) E s₂) E s₁) E (r.st h tk) := by
  refine hi r h tk _ E (Le.refl _) fun y h₁ t₁ k₁ ⟨l, a1, a2, a3, ey, hr⟩ => ?_
  subst ey
  refine wpAny_pyIter_range hr (small_one (by omega) (by omega) (by omega) (by omega)) ?_
  rw [rsize]
  have kp2 := Le.push h₁ ({ cls := .type "range_iterator", data := .fields #[rawInt 0, rawInt n, rawInt 1] } : Obj)
  have hI := Heap.get?_push_size h₁ (o := ({ cls := .type "range_iterator", data := .fields #[rawInt 0, rawInt n, rawInt 1] } : Obj)) rfl
  have nI := none_of_le k₁ (fresh_size h₁)
  generalize hG2 : h₁.push ({ cls := .type "range_iterator", data := .fields #[rawInt 0, rawInt n, rawInt 1] } : Obj) = h₂ at kp2 hI
  have ltI := Heap.lt_size hI
  refine wpAny_newObj_type (cell_env hnm fun h₄ up hns₄ hc₄ => ?_)
  dsimp only at up hns₄ hc₄ ⊢
  have hDg : (h₂.push { cls := .type "list", dict := none, data := .seq ([] : List Value).toArray }).get? h₂.objs.size = some { cls := .type "list", dict := none, data := .seq ([] : List Value).toArray } := Heap.get?_push_size _ rfl
  have kp3 : Le h₂ (h₂.push { cls := .type "list", dict := none, data := .seq ([] : List Value).toArray }) := Le.push _ _
  have nD : h.get? h₂.objs.size = none := none_of_le (k₁.trans kp2) (fresh_size h₂)
  generalize hG3 : h₂.push { cls := .type "list", dict := none, data := .seq ([] : List Value).toArray } = h₃ at up hns₄ hc₄ hDg kp3
  have ltD := Heap.lt_size hDg
  have nC : h.get? h₃.objs.size = none := none_of_le (k₁.trans (kp2.trans kp3)) (fresh_size h₃)
  have nC1 : h₃.get? (h₃.objs.size + 1) = none := get_none (Nat.le_succ _)
  have kg : Le h (hideAll h₃ [h₁.objs.size, h₂.objs.size]) := fun b o e => hideAll_get _ (kp3 _ _ (kp2 _ _ (k₁ _ _ e))) (fun z => by
    rcases List.mem_cons.mp z with rfl | z
    · rw [nI] at e; cases e
    · rw [List.mem_singleton] at z
      subst z
      rw [nD] at e; cases e)
  refine cont h₁.objs.size h₂.objs.size h₃.objs.size h₄ _ _ kg nD nC (Nat.ne_of_gt ltD) ⟨⟨hns₄, fun b o e => up b o (of_hideAll _ e), Nat.le_of_eq (hideAll_size _ _)⟩, fun p hp => ?_, ?_, fun p hp => by cases hp⟩
  · simp only [List.mem_cons, List.not_mem_nil, or_false] at hp
    rcases hp with rfl | rfl | rfl
    · refine ⟨?_, Nat.ne_of_lt (Nat.lt_trans ltI ltD), hideAll_none _ (.head _)⟩
      have := up _ _ (kp3 _ _ hI)
      simpa [rgIt] using this
    · exact ⟨up _ _ hDg, Nat.ne_of_lt ltD, hideAll_none _ (.tail _ (.head _))⟩
    · refine ⟨hc₄, Nat.succ_ne_self _, ?_⟩
      cases q : (hideAll h₃ [h₁.objs.size, h₂.objs.size]).get? (h₃.objs.size + 1) with
      | none => rfl
      | some o => rw [of_hideAll _ q] at nC1; cases nC1
  · have e1 : h₁.objs.size ≠ h₃.objs.size + 1 := Nat.ne_of_lt (Nat.lt_succ_of_lt (Nat.lt_trans ltI ltD))
    have e2 : h₂.objs.size ≠ h₃.objs.size + 1 := Nat.ne_of_lt (Nat.lt_succ_of_lt ltD)
    simp [Nat.ne_of_lt ltI, e1, e2]
theorem law11 (hh : A.handled = none) (Bg : Bs w g) (W : Ws g L h m Φ T) {Q : Flow → Shared → Prop}
    (q : ∀ D vs k h' tk', Ws g L h' (upd m "rows" (.ref D)) ((D, PySem.W.listOf vs.toArray k) :: Φ) ((vs, rowsUp 16) :: T) → Q .next (r.st h' tk')) :
    wpAny (model prog w) A (exec (lawS w 11) (lawEnv w L)) Q E (r.st h tk) := by
  have B := Bg.le W.keep
  refine asgUse (cl := []) rfl (fun _ => rfl) rfl rfl (by decide) rfl (compSetC (n := 16) (by decide) rfl (Ev.range1 (n := 16) (Ev.boot B rfl rfl (by decide) rfl rfl rfl rfl) Ev.cint) fun I D C H tk g' kg nD nC hCD Wc => ?_)
  have hit : IsRangeIter H I ((0 : Int) + ((0 : Nat) : Int) * 1) (((16 : Nat) : Int) - ((0 : Nat) : Int)) 1 := (Wc.N _ (.head _)).1
  refine start0R hit ?_
  refine rangeLoop (a := 0) (c := 1) (n₀ := 16) (fun i m Φ T => ∃ vs k oc v0, oc.data = .cell v0 ∧ Φ = [(D, PySem.W.listOf vs.toArray k), (C + 1, oc)] ∧ T = [(vs, rowsUp i)]) hh (turn_one _ _ _ _ _ _ _ _ _) (Wc.addT (vs := []) (ds := []) .nil) ⟨[], 0, _, none, rfl, rfl, rfl⟩ ?_ ?_
  · clear hit Wc
    rintro i t m Φ T H tk oI ⟨vs, k, oc, v0, hoc, rfl, rfl⟩ hi W'
    have e0 : (0 : Int) + (i : Int) * 1 = Int.ofNat i := by simp
    rw [e0]
    refine wpAny_assign_Name (stC (c := C + 1) W' 2 rfl hoc rfl rfl rfl fun h₁ t₁ oc' hoc' W₁ => ?_)
    have B₁ := B.le (kg.trans W₁.keep)
    have hvl := (W₁.dvs 0).length
    have hvs : vs.length ≤ 2 ^ 20 := by rw [hvl]; simp [rowsUp]; omega
    refine emitE (d := rowD i) W₁ 1 rfl (W₁.dvs 0) hvs ?_ fun v h₂ t₂ k₂ W₂ hd₂ => ?_
    · refine Ev.tupleL (Ev.boot B₁ rfl rfl (by decide) rfl rfl rfl rfl) ?_ (by simp)
      refine Ev.compN (ds := ints4) (cl := [("number", C + 1)]) (fun d => .int (Int.ofNat (i / 2 ^ d.nat % 2))) (by simp [ints4, Dt.nat, Function.comp_def]) rfl (by decide) rfl (by decide) rfl (by decide) (Sr.range1 hh (by decide) (Ev.boot B₁ rfl rfl (by decide) rfl rfl rfl rfl) Ev.cint) ?_
      intro d hd C' v h m kk hv hn hm
      obtain ⟨j, hj, rfl⟩ := mem_ints4 hd
      have hc : h.IsCell (C + 1) (some (.int (Int.ofNat i) t)) := (W₁.le kk).isCell 2 hoc'
      have e : (Dt.int (Int.ofNat j)).nat = j := rfl
      rw [e, ← row_val i hi j hj]
      exact Ev.binI (Ev.binI (Ev.dname (.cell rfl rfl (c := C + 1) rfl hc) (.int _ t)) (Ev.binI Ev.cint (Ev.dname (.loc rfl rfl hn hm) hv) (BinI.pow (by simp) (row_pow j hj))) (BinI.div (row_ne j hj) (row_div i hi j hj))) Ev.cint (BinI.mod (by decide))
    · refine ⟨m, _, _, h₂, t₂, rfl, ⟨vs ++ [v], k₂, oc', _, hoc', rfl, rfl⟩, ?_⟩
      rw [rowsUp_succ]
      exact W₂.swapT hd₂
  · rintro m' Φ' T' H tk oI ⟨vs, k, oc, v0, hoc, rfl, rfl⟩ W' H' kH W''
    exact useTail W (kg.trans W''.keep) (W''.get 0) (W''.dvs 0) nD W''.F.ns nC hCD rfl rfl rfl fun h' tk' Wq => q D vs k h' tk' Wq
end
end Mine

end
section
set_option maxRecDepth 100000
namespace Mine
open PySem PySem.W PySem.Calls PyProof.Rows
def leadT (md : List (List Nat)) : Dt → List Dt
  | .tup [.int a, .int b] => md.map fun o => twoD (o.getD a.toNat 0) (o.getD b.toNat 0)
  | _ => []
def leadR (md : List (List Nat)) : Dt → List Dt
  | .tup l => md.map fun o => .tup (o.map fun k => l.getD k (.int 0))
  | _ => []
theorem mem_twos {i : Nat} {d : Dt} (h : d ∈ twosUp i) : ∃ a b, a < i ∧ b < 4 ∧ d = twoD a b := by
  obtain ⟨a, ha, h2⟩ := List.mem_flatMap.mp h
  obtain ⟨b, hb, e⟩ := List.mem_map.mp h2
  exact ⟨a, b, List.mem_range.mp ha, List.mem_range.mp hb, e.symm⟩
theorem mem_rows {i : Nat} {d : Dt} (h : d ∈ rowsUp i) : ∃ a, a < i ∧ d = rowD a := by
  obtain ⟨a, ha, rfl⟩ := List.mem_map.mp h
  exact ⟨a, List.mem_range.mp ha, rfl⟩
def ringsN (o : List Nat) : Nat := (ringsS o).getD 0
section
variable {prog : Program} {w : World} {A : Around} {g : Heap} {L : Addr} {h : Heap} {tk : Nat} {r : Rst} {m : Str → Option Value} {E : Value → Shared → Prop} {ls : List Int} {p : Program} {loose : List Str} {mean : ExcName → Option Value} {mg mb : Str → Option Value}
theorem law9 (hh : A.handled = none) (hroom : A.depth + 10 < recursionLimit) (hu : A.units + 200 < cLine) (Bg : Bs w g) (TT : Top p loose mean mg mb g) (C : CodeHd g 70 68) {mk md : List (List Nat)} {kc : List (Int × Int)} {x : LX} (X : LD prog w m md kc ls x) {D : Addr} {vs : List Value} {k : Nat} (W : Ws g L h m ((D, PySem.W.listOf vs.toArray k) :: x.F L) ((vs, twosUp 4) :: x.T mk md)) (hmD : m "twos" = some (.ref D)) (hmd : Ord md) (hz : md.length ≤ 2 ^ 9) (hl : ((79 : Nat) : Int) ∉ ls)
    {N out : Nat} (hs : lotsGo (leadT md) N (twosUp 4) 0 = some out) {Q : Flow → Shared → Prop}
    (q : ∀ t h' tk' x', LS prog w g L h' (upd m "pairs" (.int out t)) mk md kc (((79 : Nat) : Int) :: ls) x' → Q .next (r.st h' tk')) :
    wpAny (model prog w) A (exec (lawS w 9) (lawEnv w L)) Q E (r.st h tk) := by
  have B := Bg.le W.keep
  refine wpAny_Assign_Name (lotsE (c := L + 4) (x := "two") (y := "made") (ls := ls) (ps := x.ps) (φ := VE (.ref D)) (lead := leadT md) (N := N) (ds := twosUp 4) (out := out) hh (by omega) (by omega) Bg W TT C 9 rfl X.tab hl rfl rfl rfl rfl
    (Ev.glob B rfl rfl rfl rfl) (Ev.name (.loc rfl rfl W.F.ns hmD)) hs ?_ (fun _ _ _ _ => rfl) rfl rfl rfl rfl ?_ ?_ ?_ (by rw [twosUp_len]; decide) ?_) rfl
  · rintro h₁ u h₂ k₁ rfl env' h₃ ps' e68 hx W'
    exact callListV (W'.isL 0) (W'.dvs 0) (by rw [twosUp_len]; decide)
  · intro d hd a env' f c' h₁ L' h₂ ps' hv k₁ W₁ hc
    obtain ⟨i, j, hi, hj, rfl⟩ := mem_twos hd
    have W₂ := W₁.le k₁
    refine Ev.compN (ds := btss md) (cl := [("two", L' + 1)]) (fun d => twoD (d.bl.getD i 0) (d.bl.getD j 0)) (by simp [leadT, twoD, btss, Dt.bl, Function.comp_def]) rfl (by decide) rfl (by decide) rfl (by simp only [btss, List.length_map]; omega)
      (Sr.list hh (Ev.name (.free rfl rfl (c := L + 4) rfl (W₂.isCell 7 X.c4) (by decide))) (W₂.isL 2) (W₂.dvs 2)) ?_
    intro d hd C v h m kk hv' hn hm
    obtain ⟨o, ho, rfl⟩ := List.mem_map.mp hd
    have hl := (hmd o ho).1
    refine Ev.tup2 hh ?_ ?_
    · exact Ev.itemB (l := o) (i := Int.ofNat i) (Ev.dname (.loc rfl rfl hn hm) hv') (Ev.itemT (ds := [.int (Int.ofNat i), .int (Int.ofNat j)]) (i := 0) (Ev.dname (.cell rfl rfl (c := L' + 1) rfl (hc.keeps kk)) (hv.le (k₁.trans kk))) Ev.cint (by decide) rfl (by simp)) (by simp) (by simpa [Dt.bl] using (hmd.at ho hi).1) (by omega)
    · exact Ev.itemB (l := o) (i := Int.ofNat j) (Ev.dname (.loc rfl rfl hn hm) hv') (Ev.itemT (ds := [.int (Int.ofNat i), .int (Int.ofNat j)]) (i := 1) (Ev.dname (.cell rfl rfl (c := L' + 1) rfl (hc.keeps kk)) (hv.le (k₁.trans kk))) Ev.cint (by decide) rfl (by simp)) (by simp) (by simpa [Dt.bl] using (hmd.at ho hj).1) (by omega)
  · intro d hd
    obtain ⟨i, j, hi, hj, rfl⟩ := mem_twos hd
    rfl
  · intro d hd e he
    obtain ⟨i, j, hi, hj, rfl⟩ := mem_twos hd
    obtain ⟨o, ho, rfl⟩ := List.mem_map.mp he
    rfl
  · intro t h' tk' ps' ht' W'
    refine stL W' rfl rfl rfl fun h₂ t₂ W₂ => ?_
    exact q t h₂ t₂ { x with ps := ps' } ⟨⟨upd_to X.hK (by decide), upd_to X.hC (by decide), upd_to X.hM (by decide), X.loC, X.lf, X.kc, X.c1, X.c2, X.c3, X.c4, X.c5, ht'⟩, W₂.sub (.cons _ (.refl _)) fun p hp => .tail _ hp⟩
theorem law12 (hh : A.handled = none) (hroom : A.depth + 10 < recursionLimit) (hu : A.units + 200 < cLine) (Bg : Bs w g) (TT : Top p loose mean mg mb g) (C : CodeHd g 70 68) {mk md : List (List Nat)} {kc : List (Int × Int)} {x : LX} (X : LD prog w m md kc ls x) {D : Addr} {vs : List Value} {k : Nat} (W : Ws g L h m ((D, PySem.W.listOf vs.toArray k) :: x.F L) ((vs, rowsUp 16) :: x.T mk md)) (hmD : m "rows" = some (.ref D)) (hmd : Ord md) (hz : md.length ≤ 2 ^ 9) (hl : ((83 : Nat) : Int) ∉ ls)
    {N out : Nat} (hs : lotsGo (leadR md) N (rowsUp 16) 0 = some out) {Q : Flow → Shared → Prop}
    (q : ∀ t h' tk' x', LS prog w g L h' (upd m "coloured" (.int out t)) mk md kc (((83 : Nat) : Int) :: ls) x' → Q .next (r.st h' tk')) :
    wpAny (model prog w) A (exec (lawS w 12) (lawEnv w L)) Q E (r.st h tk) := by
  have B := Bg.le W.keep
  refine wpAny_Assign_Name (lotsE (c := L + 4) (x := "row") (y := "made") (ls := ls) (ps := x.ps) (φ := VE (.ref D)) (lead := leadR md) (N := N) (ds := rowsUp 16) (out := out) hh (by omega) (by omega) Bg W TT C 9 rfl X.tab hl rfl rfl rfl rfl
    (Ev.glob B rfl rfl rfl rfl) (Ev.name (.loc rfl rfl W.F.ns hmD)) hs ?_ (fun _ _ _ _ => rfl) rfl rfl rfl rfl ?_ ?_ ?_ (by simp [rowsUp]) ?_) rfl
  · rintro h₁ u h₂ k₁ rfl env' h₃ ps' e68 hx W'
    exact callListV (W'.isL 0) (W'.dvs 0) (by simp [rowsUp])
  · intro d hd a env' f c' h₁ L' h₂ ps' hv k₁ W₁ hc
    obtain ⟨i, hi, rfl⟩ := mem_rows hd
    have W₂ := W₁.le k₁
    have B₂ := Bg.le W₂.keep
    refine Ev.compN (ds := btss md) (cl := [("row", L' + 1)]) (fun d => .tup (d.bl.map fun k => ((List.range 4).map fun k => Dt.int (Int.ofNat (i / 2 ^ k % 2))).getD k (.int 0))) (by simp [leadR, rowD, btss, Dt.bl, Function.comp_def]) rfl (by decide) rfl (by decide) rfl (by simp only [btss, List.length_map]; omega)
      (Sr.list hh (Ev.name (.free rfl rfl (c := L + 4) rfl (W₂.isCell 7 X.c4) (by decide))) (W₂.isL 2) (W₂.dvs 2)) ?_
    intro d hd C v h m kk hv' hn hm
    obtain ⟨o, ho, rfl⟩ := List.mem_map.mp hd
    have hl := (hmd o ho).1
    have B₃ := B₂.le kk
    refine Ev.tupleL (Ev.boot B₃ rfl rfl (by decide) rfl rfl rfl rfl) ?_ (by simp [Dt.bl]; omega)
    refine Ev.compN (ds := o.map fun i => .int (Int.ofNat i)) (cl := [("row", L' + 1)]) (fun d => ((List.range 4).map fun k => Dt.int (Int.ofNat (i / 2 ^ k % 2))).getD d.nat (.int 0)) (by simp [Dt.bl, Dt.nat, Function.comp_def]) rfl (by decide) rfl (by decide) rfl (by simp; omega)
      (Sr.bts hh (Ev.dname (.loc rfl rfl hn hm) hv')) ?_
    intro d hd C2 v2 h2 m2 kk2 hv2 hn2 hm2
    obtain ⟨n, hno, rfl⟩ := List.mem_map.mp hd
    have hn4 := (hmd o ho).2 n hno
    refine Ev.itemT (ds := (List.range 4).map fun k => Dt.int (Int.ofNat (i / 2 ^ k % 2))) (i := Int.ofNat n) (Ev.dname (.cell rfl rfl (c := L' + 1) rfl (hc.keeps (kk.trans kk2))) (hv.le (k₁.trans (kk.trans kk2)))) (Ev.dname (.loc rfl rfl hn2 hm2) hv2) (by simp) ?_ (by simp)
    have e : (Dt.int (Int.ofNat n)).nat = n := rfl
    rw [e]
    have h5 : n < ((List.range 4).map fun k => Dt.int (Int.ofNat (i / 2 ^ k % 2))).length := by simpa using hn4
    simp [List.getD, hn4]
  · intro d hd
    obtain ⟨i, hi, rfl⟩ := mem_rows hd
    rfl
  · intro d hd e he
    obtain ⟨i, hi, rfl⟩ := mem_rows hd
    obtain ⟨o, ho, rfl⟩ := List.mem_map.mp he
    simp only [shal, List.all_eq_true, List.mem_map]
    rintro z ⟨n, hn, rfl⟩
    have hn4 := (hmd o ho).2 n hn
    rw [show ((List.range 4).map fun k => Dt.int (Int.ofNat (i / 2 ^ k % 2))).getD n (.int 0) = .int (Int.ofNat (i / 2 ^ n % 2)) by simp [List.getD, hn4]]
  · intro t h' tk' ps' ht' W'
    refine stL W' rfl rfl rfl fun h₂ t₂ W₂ => ?_
    exact q t h₂ t₂ { x with ps := ps' } ⟨⟨upd_to X.hK (by decide), upd_to X.hC (by decide), upd_to X.hM (by decide), X.loC, X.lf, X.kc, X.c1, X.c2, X.c3, X.c4, X.c5, ht'⟩, W₂.sub (.cons _ (.refl _)) fun p hp => .tail _ hp⟩
theorem law13 (hh : A.handled = none) (hroom : A.depth + 10 < recursionLimit) (hu : A.units + 200 < cLine) (Bg : Bs w g) {mk md : List (List Nat)} {kc : List (Int × Int)} {x : LX} (X : LS prog w g L h m mk md kc ls x) (hmd : Ord md) (hz : md.length ≤ 2 ^ 9) {col : Nat} {tl : Tok} (hm : m "coloured" = some (.int col tl)) (hcol : col ≤ 2 ^ 20)
    (hr : ∀ o ∈ md, ∃ n, n ≤ 4 ∧ ringsS o = some n) (h2 : (md.map fun o => ((2 ^ ringsN o : Nat) : Int)).sum = (col : Int) * (md.length : Int)) {Q : Flow → Shared → Prop}
    (q : ∀ h' tk', LS prog w g L h' m mk md kc ls x → Q .next (r.st h' tk')) :
    wpAny (model prog w) A (exec (lawS w 13) (lawEnv w L)) Q E (r.st h tk) := by
  have W := X.W
  have B := Bg.le W.keep
  refine exIfNo W (Ev.neNo (a := (md.map fun o => ((2 ^ ringsN o : Nat) : Int)).sum) (b := (col : Int) * md.length) ?_ ?_ h2) fun h₂ t₂ W₂ => q _ _ { X with W := W₂ }
  · refine Ev.sumL hh (Ev.boot B rfl rfl (by decide) rfl rfl rfl rfl) ?_
    rw [List.map_map]
    refine Ev.compN (ds := btss md) (cl := []) (fun d => .int ((2 ^ ringsN d.bl : Nat) : Int)) (by simp [btss, Dt.bl, Function.comp_def]) rfl (by decide) rfl (by decide) rfl (by simp only [btss, List.length_map]; omega)
      (Sr.list hh (Ev.name (.cell rfl rfl (c := L + 4) rfl (W.isCell 6 X.c4))) (W.isL 1) (W.dvs 1)) ?_
    intro d hd C v h m kk hv' hn hm
    obtain ⟨o, ho, rfl⟩ := List.mem_map.mp hd
    obtain ⟨n, hn4, hrn⟩ := hr o ho
    have e : ringsN (Dt.bts o).bl = n := by simp [Dt.bl, ringsN, hrn]
    have e2 : ((2 ^ n : Nat) : Int) = (2 : Int) ^ ((n : Int)).toNat := by simp
    rw [e, e2]
    have B₃ := B.le kk
    refine Ev.binI (b := (n : Int)) Ev.cint (Ev.call1 (f := .ref 66) (φ := DT (.bts o)) (Ev.glob B₃ rfl rfl rfl rfl) (fun _ k => keeps_fn (k _ _ (B₃.1 66 _ rfl)) rfl) (Ev.dname (.loc rfl rfl hn hm) hv') ?_ Dn.dt) (BinI.pow (by simp) ?_)
    · intro h1 b h2 k1 k2 e
      exact rings_spec hh (by omega) (by omega) (B₃.le (k1.trans k2)) hrn e (by have := (hmd o ho).1; omega)
    · have : Builtin.Int.intBits 2 = 2 := by decide +kernel
      rw [this]; omega
  · exact Ev.binI (Ev.dname (.loc rfl rfl W.F.ns hm) (.int _ _)) (Ev.dname (.loc rfl rfl W.F.ns X.hM) (.int _ _)) (BinI.mul (small_nat ⟨col, hcol, rfl⟩))
end
end Mine

end
section
set_option maxRecDepth 100000
namespace Mine
open PySem PySem.W PySem.Calls PyProof.Rows
theorem comp_first {e : Expr} {scope : Scope} {env : Env} {pos : Pos} {newAcc first : Sem Value} {a : Bool} : comprehension e scope env pos newAcc a first none = first >>= fun u => comprehension e scope env pos newAcc a (Pure.pure u) none := by
  unfold comprehension
  simp only [pure_bind]
section
variable {M : Model} {A : Around} {E : Value → Shared → Prop} {s : Shared} {env : Env}
theorem wpC.standIf {α : Type} {c : Prop} [Decidable c] {pos : Pos} {k : PUnit → Sem α} {Q : α → Shared → Prop} (h : wpC M A (k ()) Q E s) : wpC M A (if c then (standAt pos >>= k) else k ()) Q E s := by
  split
  · exact wpC.bindA (wpAny_standAt h)
  · exact h
theorem wpC.noted {α : Type} {m : Sem α} {Q : α → Shared → Prop} (h : wpC M A m Q NoE s) : wpC M A (m.onRaise fun x => do noteFrame x env; theTreesLotGoes x) Q E s :=
  wpC.onRaise (h.mono (fun _ _ q => q) fun _ _ hx => hx.elim)
theorem wpC.comprehension {e : Expr} {scope : Scope} {pos : Pos} {newAcc first : Sem Value} {g : Comprehension} {gs : List Comprehension} {cl : List (Str × Addr)} {Q : Value → Shared → Prop}
    (hcl : clausesOf e = g :: gs) (hs : ∀ x, foldedSetIterable g.iter env x = Pure.pure x) (hclos : closureFor scope env = Pure.pure cl)
    (hkind : scope.kind = .function) (hnames : ∀ x ∈ scope.names, x.2 = .local → scope.names.lookup x.1 = some .local)
    (h : wpAny M A first (fun x s₁ => wpAny M A (pyIter x) (fun it s₂ => wpAny M A newAcc (fun acc s₃ =>
      wpAny M A (newFunctionEnv scope env.globals cl [] env.qual none .none (some env)) (fun cenv s₄ =>
        codeC M A (.compStart e 0 it acc { cenv with scope := relabel scope env }) (fun r s' => match r with | .ok _ => ∃ m, s'.heap.Ns cenv.locals m ∧ ∀ h', Heap.SameBut cenv.locals s'.heap h' → Q acc { s' with heap := h' } | .error _ => False) s₄) E s₃) E s₂) E s₁) E s) :
    wpC M A (PySem.comprehension e scope env pos newAcc false first none) Q E s := by
  unfold PySem.comprehension
  rw [hclos, hcl]
  refine wpC.bindA (wpAny_mono h (fun x s₁ h₁ => wpC.bindA (wpAny_standAt (wpC.bindA (wpAny_of_eq (hs x) (wpC.bindA (wpAny_holding (wpAny_mono h₁ (fun it s₂ h₂ =>
    wpC.standIf (wpC.bindA (wpAny_mono h₂ (fun acc s₃ h₃ => wpC.bindA (wpAny_pure (wpC.bindA (wpAny_mono h₃ (fun cenv s₄ h₄ => ?_) fun _ _ h' => h')))) fun _ _ h' => h')))
      fun _ _ h' => h'))))))) fun _ _ h' => h')
  dsimp only
  have hv : ∀ x ∈ (scope.names.filter fun x => (x.2 == .local || x.2 == .cell) && x.1 != (".0" : Str)).reverse, x.2 = .local →
      Env.kindOf { cenv with scope := relabel scope env } x.1 = some .local := fun x hx hl => lookup_relabel_local (hnames x (List.mem_filter.mp (List.mem_reverse.mp hx)).1 hl)
  refine wpC.holding (wpC.bind (wpC.attempt (wpC.holding (wpC.run (h₄.mono fun r s' hr => ?_)))))
  cases r with
  | ok f =>
    obtain ⟨m, hn, hr⟩ := hr
    exact wpC.of (wpAny_bind (wpAny_holding (wpAny_comp_letGo (cenv := { cenv with scope := relabel scope env }) hkind _ s' m hv hn fun h' m' _ hs' => wpAny_pure (hr h' hs'))))
  | error x => exact hr.elim
end
section
variable {prog : Program} {w : World} {A : Around} {g : Heap} {L : Addr} {h : Heap} {tk : Nat} {r : Rst} {m : Str → Option Value} {Φ : List (Addr × Obj)} {T : List (List Value × List Dt)} {env : Env} {E : Value → Shared → Prop} {R : Result → Shared → Prop}
abbrev lsIt (l : Addr) (i : Nat) : Obj := { cls := .type "list_iterator", data := .fields #[.ref l, .int i 0] }
/-- the turns of a list comprehension over a list, in C -/
theorem listLoopC {elt i1 : Expr} {scope : Scope} {pos px : Pos} {I l : Addr} {vs : List Value} {acc : Value} {x : Str} (J : RInv) (hh : A.handled = none) (hl : g.IsList l vs.toArray)
    (W : Ws g L h m ((I, lsIt l 0) :: Φ) T) (hJ : J 0 m Φ T)
    (turn : ∀ i v m Φ T H tk oI, J i m Φ T → vs[i]? = some v → Ws g L H m ((I, oI) :: Φ) T →
      wpAny (model prog w) A (assign (.Name x px) env v) (fun _ s₂ => wpC (model prog w) A (do let _ ← call (.builtin "list.append") [acc, ← eval elt env]) (fun _ s₃ => ∃ m' Φ' T' H' tk', s₃ = r.st H' tk' ∧ J (i + 1) m' Φ' T' ∧ Ws g L H' m' ((I, oI) :: Φ') T') NoE s₂) NoE (r.st H tk))
    (done : ∀ m Φ T H tk, J vs.length m Φ T → Ws g L H m Φ T → R (.ok .next) (r.st H tk)) :
    codeC (model prog w) A (.compLoop (.ListComp elt [⟨.Name x px, i1, [], 0⟩] scope pos) 0 (.ref I) acc env) R (r.st h tk) := by
  refine codeC.loop rfl rfl (fun n s => ∃ i m Φ T H tk oI, s = r.st H tk ∧ i ≤ vs.length ∧ n = vs.length - i ∧ J i m Φ T ∧ Ws g L H m ((I, oI) :: Φ) T ∧ oI.cls = .type "list_iterator" ∧ oI.data = .fields #[.ref l, .int i 0]) (fun n s hI => ?_) vs.length ⟨0, m, Φ, T, h, tk, _, rfl, Nat.zero_le _, rfl, hJ, W, rfl, rfl⟩
  show wpC _ A ((compTurn (.ListComp elt [⟨.Name x px, i1, [], 0⟩] scope pos) 0 (.ref I) acc env).onRaise (fun x => do noteFrame x env; theTreesLotGoes x)) _ _ s
  refine wpC.noted ?_
  rw [turn_one]
  clear hJ W
  obtain ⟨i, m, Φ, T, H, tk, oI, rfl, hi, rfl, hJ', W', hc, hd⟩ := hI
  have D := W'.N (_, _) (.head _)
  have ntI : ∀ xs k, oI.cls = .type "tuple" → oI.data = .seq xs k → False := fun xs k c q => by rw [hd] at q; cases q
  have hit : H.IsListIter I l i := ⟨oI, D.1, hc, hd⟩
  have hL : H.IsList l vs.toArray := hl.at fun o e => W'.keep _ o e
  refine wpC.bindA (wpAny_standAt (wpC.bindA ?_))
  cases hv : vs[i]? with
  | none =>
    have : i = vs.length := by have := List.getElem?_eq_none_iff.mp hv; omega
    subst this
    exact wpAny_pyNext_list_end hh hit hL (by simpa using hv) fun h₂ k₂ => wpC.pure (done _ _ _ _ _ hJ' (W'.rest k₂ ntI))
  | some v =>
    have hlt : i < vs.length := (List.getElem?_eq_some_iff.mp hv).1
    refine wpAny_pyNext_list_item hit hL (x := v) (by simpa using hv) fun h₂ hit₂ hs₂ => ?_
    obtain ⟨o₂, e₂, c₂, d₂⟩ := hit₂
    have W₂ : Ws g L h₂ m ((I, o₂) :: Φ) T := W'.setAt (n := 0) rfl hs₂ e₂ ntI
    refine wpC.bindA (wpAny_mono (turn i v m Φ T h₂ _ o₂ hJ' hv W₂) (fun _ s₂ q => wpC.bind (q.mono (fun _ s₃ z => ?_) fun _ _ z => z.elim)) fun _ _ z => z.elim)
    obtain ⟨m', Φ', T', H', tk', rfl, hJ'', W''⟩ := z
    exact wpC.pure ⟨rfl, vs.length - (i + 1), by omega, i + 1, m', Φ', T', H', tk', o₂, rfl, hlt, rfl, hJ'', W'', c₂, d₂⟩
theorem startC {elt target iter : Expr} {ifs : List Expr} {rest : List Comprehension} {scope : Scope} {pos : Pos} {it acc : Value} {s : Shared} 
    (h0 : codeC (model prog w) A (.compLoop (.ListComp elt (⟨target, iter, ifs, 0⟩ :: rest) scope pos) 0 it acc env) R s)
    (h : wpAny (model prog w) A (pyIter it) (fun it' s' => codeC (model prog w) A (.compLoop (.ListComp elt (⟨target, iter, ifs, 0⟩ :: rest) scope pos) 0 it' acc env) R s') NoE s) :
    codeC (model prog w) A (.compStart (.ListComp elt (⟨target, iter, ifs, 0⟩ :: rest) scope pos) 0 it acc env) R s := by
  refine codeC.tree rfl ?_
  show wpC _ A ((compStart (.ListComp elt (⟨target, iter, ifs, 0⟩ :: rest) scope pos) 0 it acc env).onRaise (fun x => do noteFrame x env; standAt theWindowsPlace)) _ _ s
  refine wpC.onRaise (wpC.of (wpAny_mono (Q := fun fin s' => match fin with | .done f => R (.ok f) s' | .again c' => c'.quiet = true ∧ codeC (model prog w) A c' R s') (E := NoE) ?_ (fun _ _ q => q) fun _ _ z => z.elim))
  unfold compStart
  show wpAny _ _ (ask >>= _) _ _ s
  refine wpAny_bind (wpAny_askSetting (wpAny_ite ?_))
  split
  · first
      | exact wpAny_bind (wpAny_pure (wpAny_pure (And.intro rfl h0)))
      | exact wpAny_pure (And.intro rfl h0)
  · first
      | exact wpAny_bind (wpAny_rule (wpAny_bind (wpAny_standAt (wpAny_bind (wpAny_mono h (fun it' s' h' => wpAny_pure (And.intro rfl h')) fun _ _ x => x)))))
      | (refine wpAny_bind (wpAny_rule ?_); show wpAny _ _ (standAt iter.pos >>= _) _ _ s; exact wpAny_bind (wpAny_standAt (wpAny_bind (wpAny_mono h (fun it' s' h' => wpAny_pure (And.intro rfl h')) fun _ _ x => x))))
/-- up to the first turn of a comprehension over a list -/
theorem compSetL {elt iter : Expr} {gens : List Comprehension} {scope : Scope} {pos : Pos} {cl : List (Str × Addr)} {l : Addr} {vs : List Value} {RR : Value → Addr → Result → Shared → Prop} (hl : h.IsList l vs.toArray)
    (hcell : ∀ y ∈ scope.names, y.2 ≠ .cell) (hkind : scope.kind = .function)
    (hi : Ev prog w A h (eval iter env) (VE (.ref l)))
    (cont : ∀ I D C H tk m₀ g', Le h g' → h.get? D = none → h.get? C = none → C ≠ D → Ws g' C H m₀ [(I, lsIt l 0), (D, PySem.W.listOf ([] : List Value).toArray 0)] [] → codeC (model prog w) A (.compStart (.ListComp elt gens scope pos) 0 (.ref I) (.ref D) (compEnvC scope cl C env)) (RR (.ref D) C) (r.st H tk)) :
    wpAny (model prog w) A (eval iter env) (fun x s₁ => wpAny (model prog w) A (pyIter x) (fun it s₂ => wpAny (model prog w) A (newList []) (fun acc s₃ =>
      wpAny (model prog w) A (newFunctionEnv scope env.globals cl [] env.qual none .none (some env)) (fun cenv s₄ =>
        codeC (model prog w) A (.compStart (.ListComp elt gens scope pos) 0 it acc { cenv with scope := relabel scope env }) (RR acc cenv.locals) s₄) E s₃) E s₂) E s₁) E (r.st h tk) := by
  refine hi r h tk _ E (Le.refl _) fun y h₁ t₁ k₁ ey => ?_
  rw [show y = .ref l from ey]
  refine wpAny_pyIter_list (hl.at fun o e => k₁ _ o e) ?_
  have kp2 := Le.push h₁ (lsIt l 0)
  have hI := Heap.get?_push_size h₁ (o := lsIt l 0) rfl
  have nI := none_of_le k₁ (fresh_size h₁)
  generalize hG2 : h₁.push (lsIt l 0) = h₂ at kp2 hI
  have ltI := Heap.lt_size hI
  refine wpAny_newObj_type (wpAny_newFunctionEnv hcell (by intro y hy; simp at hy) (fun h₄ hns₄ hsb₄ => ?_) hkind)
  dsimp only at hns₄ hsb₄ ⊢
  have hDg : (h₂.push { cls := .type "list", dict := none, data := .seq ([] : List Value).toArray }).get? h₂.objs.size = some { cls := .type "list", dict := none, data := .seq ([] : List Value).toArray } := Heap.get?_push_size _ rfl
  have kp3 : Le h₂ (h₂.push { cls := .type "list", dict := none, data := .seq ([] : List Value).toArray }) := Le.push _ _
  have nD : h.get? h₂.objs.size = none := none_of_le (k₁.trans kp2) (fresh_size h₂)
  generalize hG3 : h₂.push { cls := .type "list", dict := none, data := .seq ([] : List Value).toArray } = h₃ at hns₄ hsb₄ hDg kp3
  have ltD := Heap.lt_size hDg
  have nC : h.get? h₃.objs.size = none := none_of_le (k₁.trans (kp2.trans kp3)) (fresh_size h₃)
  have up : ∀ b o, h₃.get? b = some o → h₄.get? b = some o := fun b o e => hsb₄.extBut b o (Nat.ne_of_lt (Heap.lt_size e)) (Heap.get?_push_of_some _ e)
  have kg : Le h (hideAll h₃ [h₁.objs.size, h₂.objs.size]) := fun b o e => hideAll_get _ (kp3 _ _ (kp2 _ _ (k₁ _ _ e))) (fun z => by
    rcases List.mem_cons.mp z with rfl | z
    · rw [nI] at e; cases e
    · rw [List.mem_singleton] at z
      subst z
      rw [nD] at e; cases e)
  refine cont h₁.objs.size h₂.objs.size h₃.objs.size h₄ _ _ _ kg nD nC (Nat.ne_of_gt ltD) ⟨⟨hns₄, fun b o e => up b o (of_hideAll _ e), Nat.le_of_eq (hideAll_size _ _)⟩, fun p hp => ?_, ?_, fun p hp => by cases hp⟩
  · simp only [List.mem_cons, List.not_mem_nil, or_false] at hp
    rcases hp with rfl | rfl
    · exact ⟨up _ _ (kp3 _ _ hI), Nat.ne_of_lt (Nat.lt_trans ltI ltD), hideAll_none _ (.head _)⟩
    · exact ⟨up _ _ hDg, Nat.ne_of_lt ltD, hideAll_none _ (.tail _ (.head _))⟩
  · simp [Nat.ne_of_lt ltI]
/-- a comprehension whose first iterable is computed already -/
theorem compV {h₀ : Heap} {elt iter : Expr} {x : Str} {px p0 : Pos} {scope : Scope} {pos : Pos} {cl : List (Str × Addr)} {ds es : List Dt} {u : Value} (f : Dt → Dt) (he : ds.map f = es)
    (hsrc : Sr prog w A h₀ (Pure.pure u) ds)
    (hclos : closureFor scope env = Pure.pure cl) (hcell : ∀ y ∈ scope.names, y.2 ≠ .cell) (hkind : scope.kind = .function)
    (hnames : ∀ y ∈ scope.names, y.2 = .local → scope.names.lookup y.1 = some .local) (hx : scope.names.lookup x = some .local) (hlen : ds.length ≤ 2 ^ 20)
    (helt : ∀ d ∈ ds, ∀ C v h m, Le h₀ h → DV h v d → h.Ns C m → m x = some v → Ev prog w A h (eval elt (compEnvC scope cl C env)) (DT (f d)))
    (hs : ∀ x, foldedSetIterable iter env x = Pure.pure x := by intro _; rfl) :
    Ev prog w A h₀ (comprehension (.ListComp elt [⟨.Name x px, iter, [], 0⟩] scope pos) scope env p0 (newList []) false (Pure.pure u) none) (LT es) := by
  intro r h tk Q E hle q
  refine wpAny_comprehension_free (use := none) rfl hs hclos hkind hnames ?_
  exact hsrc r h tk _ E hle
    fun it h' tk' k W => comp_block (RR := fun acc C => compPost (model prog w) A E none Q acc C) (fun _ => true) f hcell hkind hx hlen (hb := h)
      (fun _ _ _ _ _ _ _ _ _ _ => tests_nil) (fun d hd _ C v h₁ m k₁ => helt d hd C v h₁ m (hle.trans k₁)) k W
      fun D C h₂ tk₂ m' vs hD hDC hC hn hl hd hk => ⟨m', hn, fun h₃ hs₃ => q _ h₃ _ (fun b o e => hs₃.extBut b o (by rintro rfl; rw [hC] at e; cases e) (hk b o e))
        ⟨D, vs, rfl, hD, hl.extBut hs₃.extBut hDC, by rw [List.filter_eq_self.mpr (fun _ _ => rfl)] at hd; rw [← he]; exact hd.tk (TK.ns hn hs₃.extBut)⟩⟩
end
end Mine

end
section
set_option maxRecDepth 100000
namespace Mine
open PySem PySem.W PySem.Calls PyProof.Rows
def turnS (o : List Nat) : List Nat := o.reverse.map fun n => 3 - n
section
variable {prog : Program} {w : World} {A : Around} {g : Heap} {L : Addr} {h : Heap} {tk : Nat} {r : Rst} {m : Str → Option Value} {Φ : List (Addr × Obj)} {T : List (List Value × List Dt)} {env : Env} {E : Value → Shared → Prop} {R : Result → Shared → Prop}
theorem startCR {elt target iter : Expr} {ifs : List Expr} {rest : List Comprehension} {scope : Scope} {pos : Pos} {I l : Addr} {i : Nat} {acc : Value} {s : Shared} (hit : s.heap.IsListIter I l i)
    (h0 : codeC (model prog w) A (.compLoop (.ListComp elt (⟨target, iter, ifs, 0⟩ :: rest) scope pos) 0 (.ref I) acc env) R s) : codeC (model prog w) A (.compStart (.ListComp elt (⟨target, iter, ifs, 0⟩ :: rest) scope pos) 0 (.ref I) acc env) R s :=
  startC h0 (wpAny_pyIter_listiter hit h0)
theorem emitC {elt : Expr} {l : Addr} {vs : List Value} {k : Nat} {ds : List Dt} {d : Dt} {Q : Unit → Shared → Prop} (W : Ws g L h m Φ T) (n : Nat) (hn : Φ[n]? = some (l, PySem.W.listOf vs.toArray k)) (hd : DVs h vs ds) (hz : vs.length ≤ 2 ^ 20)
    (he : EvC prog w A h (eval elt env) (DT d))
    (q : ∀ v h' tk' k', Ws g L h' m (Φ.set n (l, PySem.W.listOf (vs ++ [v]).toArray k')) T → DVs h' (vs ++ [v]) (ds ++ [d]) → Q () (r.st h' tk')) :
    wpC (model prog w) A (do let _ ← call (.builtin "list.append") [.ref l, ← eval elt env]) Q E (r.st h tk) := by
  refine wpC.bind (he r h tk _ E (Le.refl _) fun v h₁ t₁ k₁ f₁ => ?_)
  have W₁ := W.le k₁
  have e₁ := W₁.get n hn
  refine wpC.of (wpAny_bind (wpAny_list_append_plain ⟨k, e₁⟩ (fun h₂ hl₂ hs₂ => ?_) (size_le_of (by simpa using hz))))
  obtain ⟨k₂, e₂⟩ := hl₂
  have t2 : TK h₁ h₂ := TK.pl ⟨k, e₁⟩ hs₂.extBut
  exact wpAny_pure (q v h₂ _ k₂ (W₁.setAt hn hs₂ (by simpa using e₂) (fun xs k c _ => absurd c (by simp))) (((hd.le k₁).snoc f₁).tk t2))
theorem law14 (hh : A.handled = none) (hroom : A.depth + 10 < recursionLimit) (Bg : Bs w g) {mk md td : List (List Nat)} {kc : List (Int × Int)} {ls : List Int} {x : LX} (X : LS prog w g L h m mk md kc ls x) (hmk : Ord mk) (hz : mk.length ≤ 50) (hs : madeS (mk.map turnS) = some td) {Q : Flow → Shared → Prop}
    (q : ∀ aT vT nT o5 h' tk', o5.data = .cell (some (.ref aT)) → Ws g L h' m ((aT, PySem.W.listOf vT.toArray nT) :: LX.F { x with o5 := o5 } L) ((vT, btss td) :: x.T mk md) → Q .next (r.st h' tk')) :
    wpC (model prog w) A (exec (lawS w 14) (lawEnv w L)) Q E (r.st h tk) := by
  have W := X.W
  have B := Bg.le W.keep
  refine wpC.Assign_Name ?_ rfl
  refine EvC.call1 (f := .ref 47) (φ := LT (btss (mk.map turnS))) (χ := LT (btss td)) (Ev.glob B rfl rfl rfl rfl) (fun _ k => keeps_fn (k _ _ (B.1 47 _ rfl)) rfl) ?_ ?_ Dn.lt rfl rfl r h tk _ _ (Le.refl _) ?_
  · -- the makers turned about
    intro r h' tk Q E k q
    rw [eval_ListComp]
    have W₁ := W.le k
    refine wpC.comprehension (cl := []) rfl (fun _ => rfl) rfl rfl (by decide) (compSetL (RR := fun acc C rr s' => match rr with | .ok _ => ∃ m, s'.heap.Ns C m ∧ ∀ h', Heap.SameBut C s'.heap h' → Q acc { s' with heap := h' } | .error _ => False) (l := x.aK) (vs := x.vK) (W₁.isL 2) (by decide) rfl (Ev.name (.loc rfl rfl W₁.F.ns X.hK)) fun I D C H tk m₀ g' kg nD nC hCD Wc => ?_)
    have hit : H.IsListIter I x.aK 0 := ⟨_, (Wc.N _ (.head _)).1, rfl, rfl⟩
    have hlen : x.vK.length = mk.length := by have := (W₁.dvs 2).length; simpa [btss] using this
    refine startCR hit ?_
    refine listLoopC (fun i m Φ T => ∃ vs k, Φ = [(D, PySem.W.listOf vs.toArray k)] ∧ T = [(vs, btss ((mk.take i).map turnS))]) hh (hl := (W₁.isL 2).at fun o e => kg _ o e) (Wc.addT (vs := []) (ds := []) .nil) ⟨[], 0, rfl, rfl⟩ ?_ ?_
    · clear hit Wc
      rintro i v m Φ T H tk oI ⟨vs, k', rfl, rfl⟩ hv W'
      obtain ⟨d, hd, hv'⟩ := ((W₁.dvs 2).le (kg.trans W'.keep)).get hv
      obtain ⟨o, ho, rfl⟩ := btss_get hd
      have hmem := List.mem_of_getElem? ho
      have hi : i < mk.length := (List.getElem?_eq_some_iff.mp ho).1
      obtain ⟨o4, olt⟩ := hmk o hmem
      refine wpAny_assign_Name (stL W' rfl rfl rfl fun h₂ t₂ W₂ => ?_)
      have hv₂ : DV h₂ v (.bts o) := by
        obtain ⟨v', hv1, hv2⟩ := ((W₁.dvs 2).le (kg.trans W₂.keep)).at (d := .bts o) (i := i) (by rw [List.getElem?_map, ho]; rfl)
        rw [hv] at hv1; cases hv1; exact hv2
      have B₂ := Bg.le (W₁.keep.trans (kg.trans W₂.keep))
      have hvl := (W₂.dvs 0).length
      have hvs : vs.length ≤ 2 ^ 20 := by rw [hvl]; simp [btss]; omega
      have et : (mk.take (i + 1)).map turnS = (mk.take i).map turnS ++ [turnS o] := by rw [List.take_add_one, ho, List.map_append]; rfl
      refine emitC (d := .bts (turnS o)) W₂ 1 rfl (W₂.dvs 0) hvs ?_ fun v3 h₃ t₃ k₃ W₃ hd₃ => ⟨upd m "order" v, _, _, h₃, t₃, rfl, ⟨vs ++ [v3], k₃, rfl, rfl⟩, ?_⟩
      · refine EvC.call1 (f := .type "bytes") (φ := LT ((turnS o).map fun n => .int (Int.ofNat n))) (χ := DT (.bts (turnS o))) (Ev.boot B₂ rfl rfl (by decide) rfl rfl rfl rfl) (fun _ _ => keeps_type _) ?_ ?_ Dn.dt rfl rfl
        · intro r h5 tk5 Q5 E5 k5 q5
          rw [eval_ListComp, comp_first]
          have B5 := B₂.le k5
          have W5 := W₂.le k5
          refine wpC.bind ?_
          refine EvC.call2 (f := .ref 21) (φ := DT (.bts o)) (ψ := DT (.int 4)) (χ := DT (.bts o.reverse)) (Ev.glob B5 rfl rfl rfl rfl) (fun _ k => keeps_fn (k _ _ (B5.1 21 _ rfl)) rfl) (Ev.dname (.loc rfl rfl W5.F.ns upd_eq) (hv₂.le k5)) Ev.cint ?_ Dn.dt rfl rfl r h5 tk5 _ _ (Le.refl _) fun u h6 t6 k6 f6 => wpC.of ?_
          · intro h a h₁' b h₂ k k' k'' e e'
            exact swap_spec hh (by omega) (B5.le (k.trans (k'.trans k''))) (DV.le k'' e) e' o4
          · refine compV (h₀ := h6) (ds := o.reverse.map fun i => .int (Int.ofNat i)) (cl := []) (fun d => .int (Int.ofNat (3 - d.nat))) (by simp [turnS, Dt.nat, Function.comp_def]) (Sr.bts hh (Ev.ret fun h k => DV.le k f6)) rfl (by decide) rfl (by decide) rfl (by simp; omega) ?_ (fun _ => rfl) r h6 t6 _ _ (Le.refl _) fun y h7 t7 k7 f7 => q5 y h7 t7 (k6.trans k7) (Dn.lt k6 f7)
            intro d hd C v h m kk hv hn hm
            obtain ⟨n, hn', rfl⟩ := List.mem_map.mp hd
            have hn4 := olt n (List.mem_reverse.mp hn')
            have e : (Int.ofNat (3 - (Dt.int (Int.ofNat n)).nat)) = (3 : Int) - Int.ofNat n := by simp [Dt.nat]; omega
            rw [e]
            exact Ev.binI Ev.cint (Ev.dname (.loc rfl rfl hn hm) hv) (BinI.sub _ _)
        · rintro h a h5 k k' ⟨b, vs, rfl, _, hl, hd⟩
          exact EvC.of (callBytes hh hl.isList hd (by intro n hn; simp only [turnS, List.mem_map] at hn; obtain ⟨z, _, rfl⟩ := hn; omega) (by simp [turnS]; omega))
      · rw [et]
        simp only [btss, List.map_append] at hd₃ ⊢
        exact W₃.swapT hd₃
    · rintro m' Φ' T' H tk ⟨vs, k', rfl, rfl⟩ W'
      refine ⟨m', W'.F.ns, fun h3 hs3 => ?_⟩
      rw [hlen, List.take_length] at W'
      have e1 := W'.get 0
      have d1 := W'.dvs 0
      refine q (.ref D) h3 _ (fun b o e => hs3.extBut b o (by rintro rfl; rw [nC] at e; cases e) (W'.keep _ _ (kg _ _ e))) ⟨D, vs, rfl, nD, ⟨k', hs3.extBut _ _ (Ne.symm hCD) e1⟩, d1.tk (TK.ns W'.F.ns hs3.extBut)⟩
  · rintro h1 b h2 k1 k2 ⟨aM, vM, rfl, nM, hl, hd⟩
    have := made_spec (prog := prog) (A := A) hh (by omega) (B.le (k1.trans k2)) hs hl.isList hd (by simp; omega) (by intro o ho; obtain ⟨z, hz', rfl⟩ := List.mem_map.mp ho; have := (hmk z hz').1; simp [turnS]; omega)
    exact EvC.of (this.mono fun h3 y h4 l1 l2 f => Dn.lt (k2.trans l1) f)
  · intro v h₁ t₁ k₁ f₁
    obtain ⟨aT, vT, nT, rfl, W₁⟩ := W.addL k₁ f₁
    exact stC (c := L + 5) W₁ 8 rfl X.c5 rfl rfl rfl fun h₂ t₂ o5 c5 W₂ => q aT vT nT o5 h₂ t₂ c5 W₂
end
end Mine

end
section
set_option maxRecDepth 100000
namespace Mine
open PySem PySem.W PySem.Calls PyProof.Rows
section
variable {prog : Program} {w : World} {A : Around} {g : Heap} {L : Addr} {h : Heap} {tk : Nat} {r : Rst} {m : Str → Option Value} {E : Value → Shared → Prop} {ls : List Int} {p : Program} {loose : List Str} {mean : ExcName → Option Value} {mg mb : Str → Option Value}
theorem law15 (hh : A.handled = none) (hroom : A.depth + 10 < recursionLimit) (hu : A.units + 200 < cLine) (Bg : Bs w g) (TT : Top p loose mean mg mb g) (C : CodeHd g 70 68) {mk md td : List (List Nat)} {kc : List (Int × Int)} {x : LX} (X : LD prog w m md kc ls x) {aT : Addr} {vT : List Value} {nT : Nat} {o5 : Obj} (c5 : o5.data = .cell (some (.ref aT)))
    (W : Ws g L h m ((aT, PySem.W.listOf vT.toArray nT) :: LX.F { x with o5 := o5 } L) ((vT, btss td) :: x.T mk md)) (htd : Ord td) (hz : td.length ≤ 2 ^ 9) (hlen : td.length = md.length) (hl : ((87 : Nat) : Int) ∉ ls)
    {N lots : Nat} {tl : Tok} (hm : m "lots" = some (.int lots tl)) (hs : lotsGo (leadO td) N ints4 0 = some lots) {Q : Flow → Shared → Prop}
    (q : ∀ h' tk' ps Φ T m', Ws g L h' m' ((68, tabObj ps) :: Φ) T → Q (.ret (.bool true)) (r.st h' tk')) :
    wpAny (model prog w) A (exec (lawS w 15) (lawEnv w L)) Q E (r.st h tk) := by
  have B := Bg.le W.keep
  refine wpAny_Return_some (BoolOp_and ?_)
  refine Ev.cmp (φ := DT (.int td.length)) (ψ := DT (.int md.length)) (χ := BT true) ?_ (Ev.dname (.loc rfl rfl W.F.ns X.hM) (.int _ _)) ?_ (by with_unfolding_all rfl) r h tk _ _ (Le.refl _) fun v h₁ t₁ k₁ f₁ => ?_
  · have e := Ev.lenV (prog := prog) (A := A) (ds := btss td) (h₀ := h) (env := lawEnv w L) (pos := ⟨87, 11, 87, 22⟩) (func := .Name "len" ⟨87, 11, 87, 14⟩) (e := .Name "turned" ⟨87, 15, 87, 21⟩) (Ev.boot B rfl rfl (by decide) rfl rfl rfl rfl) (Ev.lname (.cell rfl rfl (c := L + 5) rfl (W.isCell 8 c5)) (W.isL 0) (W.dvs 0)) (by simp [btss]; omega)
    rw [show (btss td).length = td.length by simp [btss]] at e
    exact e
  · intro h a h₁ b h₂ _ _ _ e1 e2
    cases e1; cases e2
    have : true = ((td.length : Int) == (md.length : Int)) := by rw [hlen]; simp
    show Ev _ _ _ _ _ (BT true)
    rw [this]
    exact eqI
  · rw [show v = .bool true from f₁]
    refine wpAny_truthy_bool ?_
    simp only [if_true]
    have W₁ := W.le k₁
    have B₁ := Bg.le W₁.keep
    refine BoolOp_one (wpAny_Compare1 (lotsE (c := L + 5) (x := "octet") (y := "turned") (ls := ls) (ps := x.ps) (φ := fun _ y h' => ∃ l t u v, y = .ref l ∧ IsRange h' l 0 (4 : Nat) 1 t u v) (lead := leadO td) (N := N) (ds := ints4) (out := lots) hh (by omega) (by omega) Bg W₁ TT C 9 rfl X.tab hl rfl rfl rfl rfl
      (Ev.glob B₁ rfl rfl rfl rfl) (Ev.range1 (n := 4) (Ev.boot B₁ rfl rfl (by decide) rfl rfl rfl rfl) Ev.cint) hs ?_ (fun _ _ _ _ => rfl) rfl rfl rfl rfl ?_ ?_ ?_ (by decide) ?_) (by with_unfolding_all rfl))
    · rintro h₁ u h₂ k₁ ⟨l, t, u', v, rfl, hr⟩ env' h₃ ps' e68 hx W'
      exact callListR hh (range_at68 e68 hx hr) (by decide)
    · intro d hd a env' f c' h₁ L' h₂ ps' hv k₁ W₁ hc
      obtain ⟨k, hk, rfl⟩ := mem_ints4 hd
      have W₂ := W₁.le k₁
      refine compO (cl := [("octet", L' + 1)]) hh htd hz hk (Ev.name (.free rfl rfl (c := L + 5) rfl (W₂.isCell 8 c5) (by decide))) (W₂.isL 0) (W₂.dvs 0) (fun C h m kk hn => Ev.dname (.cell rfl rfl (c := L' + 1) rfl (hc.keeps kk)) (hv.le (k₁.trans kk))) rfl (by decide) rfl (by decide) rfl (fun _ => rfl) (fun _ => rfl) (fun _ => rfl)
    · intro d hd
      obtain ⟨k, hk, rfl⟩ := mem_ints4 hd
      rfl
    · intro d hd e he
      obtain ⟨o, ho, rfl⟩ := List.mem_map.mp he
      rfl
    · intro t h' tk' ps' ht' W'
      refine Ev.dname (.loc rfl rfl W'.F.ns hm) (.int _ tl) (by decide) r h' tk' _ _ (Le.refl _) fun v h₂ t₂ k₂ f₂ => ?_
      cases f₂
      refine eqI r h₂ t₂ _ _ (Le.refl _) fun v h₃ t₃ k₃ f₃ => ?_
      rw [show v = .bool true by rw [show v = .bool _ from f₃]; simp]
      refine q h₃ t₃ ps' [] [] m (((W'.le (k₂.trans k₃)).sub (Φ' := [(68, tabObj ps')]) (T' := []) ?_ fun p hp => by cases hp))
      exact .cons _ (.cons _ (.cons _ (.cons _ (.cons _ (.cons _ (.cons _ (.cons _ (.cons _ (.cons_cons _ .slnil)))))))))
end
end Mine

end
section
set_option maxRecDepth 100000
namespace Mine
open PySem PySem.W PySem.Calls PyProof.Rows
/-- what makes the law answer True -/
structure LawOK (mk md td : List (List Nat)) (lots pairs col : Nat) : Prop where
  omk : Ord mk
  made : madeS mk = some md
  omd : Ord md
  zmd : md.length ≤ 2 ^ 9
  div : (24 : Int).fmod md.length = 0
  ne : md.length ≠ 0
  reach : ∀ k, k < 4 → ((reachK md k).length * cnt md k k = md.length ∧ ∀ n, n < 4 → Int.ofNat n ∈ reachK md k → cnt md k n = cnt md k k ∧ cnt md n n = cnt md k k)
  hlots : lotsGo (leadO md) 20 ints4 0 = some lots
  lz : lots ≤ 2 ^ 20
  sum1 : sumC (callsS md) = md.length
  sumL : ((callsS md).map fun y : Int × Int => (y.1 * y.2 : Int)).sum = (lots : Int) * (md.length : Int)
  keys : ∀ y ∈ callsS md, ∃ n : Nat, n ≤ 4 ∧ y.1 = n
  hpairs : lotsGo (leadT md) 20 (twosUp 4) 0 = some pairs
  pz : pairs ≤ 2 ^ 20
  sumP : ((callsS md).map fun y : Int × Int => (y.1 ^ 2 * y.2 : Int)).sum = (pairs : Int) * (md.length : Int)
  hcol : lotsGo (leadR md) 20 (rowsUp 16) 0 = some col
  cz : col ≤ 2 ^ 20
  rings : ∀ o ∈ md, ∃ n, n ≤ 4 ∧ ringsS o = some n
  sumR : (md.map fun o => ((2 ^ ringsN o : Nat) : Int)).sum = (col : Int) * (md.length : Int)
  turned : madeS (mk.map turnS) = some td
  otd : Ord td
  ztd : td.length ≤ 2 ^ 9
  len : td.length = md.length
  lotsT : lotsGo (leadO td) 20 ints4 0 = some lots
section
variable {prog : Program} {w : World} {A : Around} {g : Heap} {L : Addr} {h : Heap} {tk : Nat} {r : Rst} {m : Str → Option Value} {p : Program} {loose : List Str} {mean : ExcName → Option Value} {mg mb : Str → Option Value} {o1 o2 o3 o4 o5 : Obj}
theorem law_body (hh : A.handled = none) (hroom : A.depth + 10 < recursionLimit) (hu : A.units + 200 < cLine) (Bg : Bs w g) (TT : Top p loose mean mg mb g) (C : CodeHd g 70 68) {ns : List Int} {a : Addr} {vs : List Value} (hL : g.IsList a vs.toArray) (hI : IntsAre vs ns) (hz : ns.length ≤ 64)
    (W : Ws g L h m (cells L o1 o2 o3 o4 o5 (tabObj #[])) []) (hm : m "script" = some (.ref a)) {v1 v2 v3 v4 v5 : Option Value} (c1 : o1.data = .cell v1) (c2 : o2.data = .cell v2) (c3 : o3.data = .cell v3) (c4 : o4.data = .cell v4) (c5 : o5.data = .cell v5)
    {md td : List (List Nat)} {lots pairs col : Nat} (K : LawOK [drawS (ns.take 4), drawS ((ns.drop 4).take 4)] md td lots pairs col) :
    wpC (model prog w) A (execs (lawB w) (lawEnv w L)) (fun f s' => f = .ret (.bool true) ∧ ∃ H tk, s' = r.st H tk ∧ Le g H ∧ ∃ ps, H.get? 68 = some (tabObj ps)) NoE (r.st h tk) := by
  have hmk4 : ∀ o ∈ [drawS (ns.take 4), drawS ((ns.drop 4).take 4)], o.length ≤ 2 ^ 20 := fun o ho => by have := (K.omk o ho).1; omega
  obtain ⟨hp4, hplt⟩ := K.omk _ (.head _)
  have hkz : (callsS md).length ≤ 2 ^ 10 := by have := callsS_len md; have := K.zmd; omega
  rw [lawB_eq]
  refine wpC.execs (wpC.of (law0 hh hroom Bg hL hI hz W hm fun aK vK nK h1 t1 W1 => ?_))
  refine wpC.execs (wpC.of (law1 hh hroom Bg W1 upd_eq K.made (by simp) hmk4 c4 fun aC aD vD nD o4' h2 t2 lo c4' W2 => ?_))
  refine wpC.execs (wpC.of (law2 Bg W2 (upd_to upd_eq (by decide)) upd_eq lo (by have := K.zmd; omega) c1 c2 c3 c4' c5 TabOk.nil fun m3 h3 t3 x3 X3 => ?_))
  refine wpC.execs (law3 hh hroom Bg X3 hp4 (fun n hn => by have := hplt n hn; omega) (by simp) K.div K.ne fun h4 t4 X4 => ?_)
  refine wpC.execs (wpC.of (law4 hh hroom hu Bg X4 K.omd K.zmd fun m5 h5 t5 x5 X5 => ?_))
  refine wpC.execs (wpC.of (law5 hh hroom hu Bg X5 K.omd K.zmd K.reach fun m6 h6 t6 x6 X6 => ?_))
  refine wpC.execs (wpC.of (law6 hh hroom hu Bg TT C X6 K.omd K.zmd (by decide) K.hlots fun tl h7 t7 x7 X7 => ?_))
  refine wpC.execs (wpC.of (law7 hh hroom Bg X7 upd_eq hkz K.keys K.lz K.sum1 K.sumL fun h8 t8 X8 => ?_))
  refine wpC.execs (wpC.of (law8 hh Bg X8.W fun D9 vs9 k9 h9 t9 W9 => ?_))
  refine wpC.execs (wpC.of (law9 hh hroom hu Bg TT C X8.toLD.upd W9 upd_eq K.omd K.zmd (by decide) K.hpairs fun tp h10 t10 x10 X10 => ?_))
  refine wpC.execs (wpC.of (law10 hh Bg X10 upd_eq hkz K.keys K.pz K.sumP fun h11 t11 X11 => ?_))
  refine wpC.execs (wpC.of (law11 hh Bg X11.W fun D12 vs12 k12 h12 t12 W12 => ?_))
  refine wpC.execs (wpC.of (law12 hh hroom hu Bg TT C X11.toLD.upd W12 upd_eq K.omd K.zmd (by decide) K.hcol fun tc h13 t13 x13 X13 => ?_))
  refine wpC.execs (wpC.of (law13 hh hroom hu Bg X13 K.omd K.zmd upd_eq K.cz K.rings K.sumR fun h14 t14 X14 => ?_))
  refine wpC.execs (law14 hh hroom Bg X14 K.omk (by simp) K.turned fun aT vT nT o5' h15 t15 c5' W15 => ?_)
  refine wpC.execs (wpC.of (law15 hh hroom hu Bg TT C X14.toLD c5' W15 K.otd K.ztd K.len (by decide) (upd_to (upd_to (upd_to (upd_to upd_eq (by decide)) (by decide)) (by decide)) (by decide)) K.lotsT fun h16 t16 ps Φ T m' W16 => ?_))
  exact ⟨rfl, h16, t16, rfl, W16.keep, ps, W16.get 0⟩
end
end Mine

end
section
set_option maxRecDepth 100000
namespace Mine
open PySem PySem.W PySem.Calls PyProof.Rows
abbrev rwC : ClaimW := PySem.Challenge.rw_hp0001_01.row.claim
abbrev pr : Program := PySem.Challenge.rw_hp0001_01.row.prog
/-- what a made-up model gives back at once -/
theorem codeAny_at {prog : Program} {w : World} {c : Code} {f : Flow} {P Q : Result → Shared → Prop} {s : Shared} (h : ∀ (M : Model), codeAny M callerA c P s → codeAny M callerA c Q s) (p : P (.ok f) s) : Q (.ok f) s := by
  have x : codeAny ⟨fun _ => Pure.pure (.done f), prog, w⟩ callerA c P s := fun Γ pos _ _ => by
    rw [wpCode_iff_wp]; exact p
  have y := h _ x
  have z := y ⟨c, none, none, [], none⟩ default rfl ⟨rfl, Nat.zero_le _, (fun l hl => by cases hl; rfl), (fun g hg => by cases hg; rfl), Nat.zero_le _⟩
  rw [wpCode_iff_wp] at z
  exact z
section
variable {w : World} {s₀ s₁ : Shared} {mg mb : Str → Option Value} {ns : List Int} {a : Addr} {vs : List Value}
/-- True, and nothing but a code table turned -/
theorem good_true (w : World) (hT : TabsAt [(70, 68)] s₁.heap) {H : Heap} {tk : Nat} (k : Le (ghostOf s₁.heap [(70, 68)]) H) (gr : ∃ ps, H.get? 68 = some (tabObj ps)) (hg : s₁.gens = #[]) {args : List WData} (hp : rwC.post args (.bool true) args = true) (hn : ∀ args cls, rwC.raises args cls = false) {cl : Str → Option Addr} {mean : ExcName → Option Value} :
    GoodWG rwC cl mean args s₁ (.ok (.ret (.bool true))) { s₁ with heap := H, toks := tk } := by
  refine codeAny_at (prog := pr) (w := w) (c := .builtin "x" {}) (f := .ret (.bool true)) (fun M h => kn_post (tabs := [(70, 68)]) hT hn h) ?_
  exact ⟨⟨.inl ⟨.bool true, .bool true, [], rfl, hn _, .bool _, hp, fun _ => ⟨List.nodup_nil, fun a ha => by cases ha⟩⟩, k, rfl, hg⟩, ⟨gr, trivial⟩⟩
theorem law_main (KX : (H.hd.heap_39 w.params).In s₁.heap) (hT : TabsAt [(70, 68)] s₁.heap) {q : Program} {loose : List Str} (T : Top q loose (ExcName.means s₀.heap) mg mb s₁.heap) (hL : s₁.heap.IsList a vs.toArray) (hI : IntsAre vs ns) (hlen : ns.length ≤ 63) (hg : s₁.gens = #[])
    {args : List WData} (hp : rwC.post args (.bool true) args = true) (hn : ∀ args cls, rwC.raises args cls = false) {cl : Str → Option Addr} {mean : ExcName → Option Value} {E : Value → Shared → Prop} {md td : List (List Nat)} {lots pairs col : Nat} (K : LawOK [drawS (ns.take 4), drawS ((ns.drop 4).take 4)] md td lots pairs col) :
    wpAny (model pr w) callerA (Gd (call (.ref 71) [.ref a])) (fun v s' => GoodWG rwC cl mean args s₁ (.ok (.ret v)) s') E s₁ := by
  have top : ∀ b o, (ghostOf s₁.heap [(70, 68)]).get? b = some o → s₁.heap.get? b = some o := fun b o e => of_hideAll _ e
  refine wp_Gd ?_ (good_true w (H := s₁.heap) (tk := s₁.toks) hT top ⟨_, (hT _ (.head _)).2⟩ hg hp hn)
  obtain ⟨h0, g0, d0, tk0, o0⟩ := s₁
  have hg0 : g0 = #[] := hg
  subst hg0
  let r : Rst := ⟨#[], d0, o0⟩
  have B1 : Bs w h0 := ⟨KX, _, _, _, _, topRead_of T⟩
  have Bg : Bs w (ghostOf h0 [(70, 68)]) := ⟨ghost_K hT KX (by kernel_rfl), _, _, _, _, topRead_of (ghost_top hT T)⟩
  refine wpC.call (codeC.callFn (binds := [("script", .ref a)]) (by decide) (B1.1 71 _ rfl) rfl B1.lim (codeRec_of B1.1 rfl) rfl rfl rfl ?_ (fun s₁ X => ?_))
  · intro x hx
    simp only [List.mem_cons, List.not_mem_nil, or_false] at hx
    subst hx
    exact .inl rfl
  · obtain ⟨h₁, tk₁, rfl, _⟩ := X.done
    have F : Fr h0 h0.objs.size h₁ _ := ⟨X.toInCall.ns, X.toInCall.keep, X.toInCall.fresh⟩
    have lt68 : 68 < h0.objs.size := Heap.lt_size (hT _ (.head _)).2
    have hsz : (ghostOf h0 [(70, 68)]).objs.size = h0.objs.size := hideAll_size _ _
    have W0 : Ws (ghostOf h0 [(70, 68)]) h0.objs.size h₁ _ [(68, tabObj #[])] [] := ⟨ghost_fr hT F, ghost_news (news := []) hT F (fun p hp => by cases hp), by simp, fun p hp => by cases hp⟩
    have gn : ∀ k, (ghostOf h0 [(70, 68)]).get? (h0.objs.size + k) = none := fun k => get_none (by rw [hsz]; exact Nat.le_add_right _ _)
    obtain ⟨o5, c5, W5⟩ := W0.cell (X.cell "turned" (h0.objs.size + 5) rfl) (Nat.ne_of_lt (by omega)) (gn 5) (by simp; omega)
    obtain ⟨o4, c4, W4⟩ := W5.cell (X.cell "made" (h0.objs.size + 4) rfl) (Nat.ne_of_lt (by omega)) (gn 4) (by simp; omega)
    obtain ⟨o3, c3, W3⟩ := W4.cell (X.cell "other" (h0.objs.size + 3) rfl) (Nat.ne_of_lt (by omega)) (gn 3) (by simp; omega)
    obtain ⟨o2, c2, W2⟩ := W3.cell (X.cell "octet" (h0.objs.size + 2) rfl) (Nat.ne_of_lt (by omega)) (gn 2) (by simp; omega)
    obtain ⟨o1, c1, W1⟩ := W2.cell (X.cell "order" (h0.objs.size + 1) rfl) (Nat.ne_of_lt (by omega)) (gn 1) (by simp; omega)
    have hLg : (ghostOf h0 [(70, 68)]).IsList a vs.toArray := by
      obtain ⟨o, e, hc, hd⟩ := hL
      exact ⟨o, ghost_get hT e (fun z => by rw [z] at hc; cases hc), hc, hd⟩
    have main := law_body (prog := pr) (w := w) (A := callerA.deeper (lawEnv w h0.objs.size)) (r := r) (tk := tk₁) rfl (show callerA.depth + 1 + 10 < recursionLimit by decide +kernel) (show callerA.units + 3 + 200 < cLine by decide +kernel) Bg (ghost_top hT T) (ghost_code hT).1 hLg hI (by omega) W1 rfl c1 c2 c3 c4 c5 K
    refine main.mono (fun f s' hf => ?_) fun _ _ z => z.elim
    obtain ⟨rfl, H, tk, rfl, kH, gr⟩ := hf
    exact good_true (s₁ := ⟨h0, #[], d0, tk0, o0⟩) w hT kH gr rfl hp hn
end
end Mine

end
section
set_option maxRecDepth 100000
namespace Mine
open PySem PySem.W PySem.Calls PyProof.Rows
/-! ## the plain law: what does not depend on the order of the orders made -/
theorem lotsGo_congr {l1 l2 : Dt → List Dt} (h : ∀ x e, e ∈ l1 x ↔ e ∈ l2 x) : ∀ (N : Nat) (ds : List Dt) (f : Nat), lotsGo l1 N ds f = lotsGo l2 N ds f := by
  intro N
  induction N with
  | zero => intro ds f; rfl
  | succ N ih =>
    intro ds f
    cases ds with
    | nil => rfl
    | cons x l =>
      have e : (fun d => !decide (d ∈ l1 x)) = (fun d => !decide (d ∈ l2 x)) := by
        funext d
        rw [decide_eq_decide.mpr (h x d)]
      simp only [lotsGo, e]
      exact ih _ _
theorem leadO_perm {a b : List (List Nat)} (p : a.Perm b) (x e : Dt) : e ∈ leadO a x ↔ e ∈ leadO b x := (p.map _).mem_iff
theorem leadT_perm {a b : List (List Nat)} (p : a.Perm b) (x e : Dt) : e ∈ leadT a x ↔ e ∈ leadT b x := by
  unfold leadT
  split
  · exact (p.map _).mem_iff
  · exact Iff.rfl
theorem leadR_perm {a b : List (List Nat)} (p : a.Perm b) (x e : Dt) : e ∈ leadR a x ↔ e ∈ leadR b x := by
  unfold leadR
  split
  · exact (p.map _).mem_iff
  · exact Iff.rfl
theorem keysOf_spec (l : List Int) : (keysOf l).Nodup ∧ ∀ e, e ∈ keysOf l ↔ e ∈ l := by
  have key : ∀ (l acc : List Int), acc.Nodup → (l.foldl (fun acc k => if k ∈ acc then acc else acc ++ [k]) acc).Nodup ∧ ∀ e, e ∈ l.foldl (fun acc k => if k ∈ acc then acc else acc ++ [k]) acc ↔ e ∈ acc ∨ e ∈ l := by
    intro l
    induction l with
    | nil => intro acc h; exact ⟨h, fun e => by simp⟩
    | cons a l ih =>
      intro acc h
      rw [List.foldl_cons]
      by_cases c : a ∈ acc
      · rw [if_pos c]
        refine ⟨(ih acc h).1, fun e => ?_⟩
        rw [(ih acc h).2 e, List.mem_cons]
        constructor
        · rintro (h | h)
          · exact .inl h
          · exact .inr (.inr h)
        · rintro (h | rfl | h)
          · exact .inl h
          · exact .inl c
          · exact .inr h
      · rw [if_neg c]
        have hn : (acc ++ [a]).Nodup := by
          rw [List.nodup_append]
          refine ⟨h, by simp, fun x hx y hy e => ?_⟩
          rw [List.mem_singleton] at hy
          subst hy; subst e
          exact c hx
        refine ⟨(ih _ hn).1, fun e => ?_⟩
        rw [(ih _ hn).2 e, List.mem_append, List.mem_singleton, List.mem_cons, or_assoc]
  have := key l [] List.nodup_nil
  refine ⟨this.1, fun e => ?_⟩
  rw [show keysOf l = l.foldl (fun acc k => if k ∈ acc then acc else acc ++ [k]) [] from rfl, this.2 e]
  simp
theorem keysOf_perm {a b : List Int} (p : a.Perm b) : (keysOf a).length = (keysOf b).length ∧ ∀ e, e ∈ keysOf a ↔ e ∈ keysOf b := by
  obtain ⟨n1, m1⟩ := keysOf_spec a
  obtain ⟨n2, m2⟩ := keysOf_spec b
  have h : ∀ e, e ∈ keysOf a ↔ e ∈ keysOf b := fun e => by rw [m1, m2, p.mem_iff]
  exact ⟨((List.perm_ext_iff_of_nodup n1 n2).mpr h).length_eq, h⟩
theorem sum_perm {a b : List Int} (p : a.Perm b) : a.sum = b.sum := by
  induction p with
  | nil => rfl
  | cons x _ ih => simp only [List.sum_cons]; rw [ih]
  | swap x y l => simp only [List.sum_cons]; omega
  | trans _ _ h1 h2 => exact h1.trans h2
/-! ## sums over the table -/
def sumF (F : Int → Int) (kc : List (Int × Int)) : Int := (kc.map fun y => F y.1 * y.2).sum
theorem put_sum (F : Int → Int) (n c : Int) : ∀ (kc : List (Int × Int)), (kc.map (·.1)).Nodup → n ∈ kc.map (·.1) →
    ∃ y, kc.find? (fun y => decide (y.1 = n)) = some y ∧ sumF F (kc.map fun y => if y.1 = n then (y.1, c) else y) = sumF F kc + F n * (c - y.2) := by
  intro kc
  induction kc with
  | nil => intro _ h; simp at h
  | cons z r ih =>
    intro nd hm
    rw [List.map_cons, List.nodup_cons] at nd
    by_cases e : z.1 = n
    · refine ⟨z, by rw [List.find?_cons]; simp [e], ?_⟩
      have hid : r.map (fun y => if y.1 = n then (y.1, c) else y) = r := by
        conv => rhs; rw [← List.map_id r]
        refine List.map_congr_left fun y hy => ?_
        rw [if_neg]; rfl
        intro q
        exact nd.1 (e ▸ q ▸ List.mem_map_of_mem hy)
      rw [List.map_cons, hid, if_pos e]
      simp only [sumF, List.map_cons, List.sum_cons]
      rw [e, Int.mul_sub]
      omega
    · have hm' : n ∈ r.map (·.1) := by
        rw [List.map_cons, List.mem_cons] at hm
        exact hm.resolve_left fun q => e q.symm
      obtain ⟨y, hy, hs⟩ := ih nd.2 hm'
      refine ⟨y, by rw [List.find?_cons]; simp [e, hy], ?_⟩
      rw [List.map_cons, if_neg e]
      simp only [sumF, List.map_cons, List.sum_cons] at hs ⊢
      rw [hs]
      omega
theorem addC_sum (F : Int → Int) (kc : List (Int × Int)) (n : Int) (nd : (kc.map (·.1)).Nodup) : sumF F (addC kc n 1) = sumF F kc + F n ∧ ((addC kc n 1).map (·.1)).Nodup := by
  unfold addC putC
  by_cases c : n ∈ kc.map (·.1)
  · rw [if_pos c]
    obtain ⟨y, hy, _⟩ := put_sum F n 0 kc nd c
    rw [hy]
    dsimp only
    obtain ⟨y', hy', hs⟩ := put_sum F n (y.2 + 1) kc nd c
    rw [hy] at hy'; cases hy'
    refine ⟨?_, ?_⟩
    · rw [hs]
      have : y.2 + 1 - y.2 = 1 := by omega
      rw [this, Int.mul_one]
    · rw [List.map_map]
      have e : (kc.map ((fun y : Int × Int => y.1) ∘ fun y' => if y'.1 = n then (y'.1, y.2 + 1) else y')) = kc.map (·.1) := by
        refine List.map_congr_left fun z _ => ?_
        simp only [Function.comp_def]
        split <;> rfl
      exact e ▸ nd
  · rw [if_neg c]
    have hf : kc.find? (fun y => decide (y.1 = n)) = none := by
      rw [List.find?_eq_none]
      intro y hy q
      exact c (of_decide_eq_true q ▸ List.mem_map_of_mem hy)
    rw [hf]
    refine ⟨by simp [sumF], ?_⟩
    rw [List.map_append, List.nodup_append]
    refine ⟨nd, by simp, fun a ha b hb e => ?_⟩
    simp only [List.map_cons, List.map_nil, List.mem_singleton] at hb
    subst hb; subst e
    exact c ha
theorem calls_sum (F : Int → Int) (md : List (List Nat)) : sumF F (callsS md) = (md.map fun o => F (Int.ofNat (fixN o))).sum := by
  have key : ∀ (l : List (List Nat)) (acc : List (Int × Int)), (acc.map (·.1)).Nodup → sumF F (l.foldl (fun kc o => addC kc (Int.ofNat (fixN o)) 1) acc) = sumF F acc + (l.map fun o => F (Int.ofNat (fixN o))).sum := by
    intro l
    induction l with
    | nil => intro acc _; simp
    | cons o l ih =>
      intro acc nd
      obtain ⟨h1, h2⟩ := addC_sum F acc (Int.ofNat (fixN o)) nd
      rw [List.foldl_cons, ih _ h2, h1, List.map_cons, List.sum_cons]
      omega
  have := key md [] List.nodup_nil
  rw [show sumF F [] = 0 from rfl, Int.zero_add] at this
  exact this
theorem sumC_eq (kc : List (Int × Int)) : sumC kc = sumF (fun _ => 1) kc := by
  have key : ∀ (l : List (Int × Int)) (a : Int), l.foldl (fun a y => a + y.2) a = a + sumF (fun _ => 1) l := by
    intro l
    induction l with
    | nil => intro a; simp [sumF]
    | cons y l ih =>
      intro a
      rw [List.foldl_cons, ih]
      simp only [sumF, List.map_cons, List.sum_cons]
      omega
  unfold sumC
  rw [key]; omega
theorem fixN_le (o : List Nat) : fixN o ≤ 4 := by
  unfold fixN
  exact Nat.le_trans (List.length_filter_le _ _) (by simp)
theorem calls_keys (md : List (List Nat)) : ∀ y ∈ callsS md, ∃ n : Nat, n ≤ 4 ∧ y.1 = n := by
  have key : ∀ (l : List (List Nat)) (acc : List (Int × Int)), (∀ y ∈ acc, ∃ n : Nat, n ≤ 4 ∧ y.1 = n) → ∀ y ∈ l.foldl (fun kc o => addC kc (Int.ofNat (fixN o)) 1) acc, ∃ n : Nat, n ≤ 4 ∧ y.1 = n := by
    intro l
    induction l with
    | nil => intro acc h; exact h
    | cons o l ih =>
      intro acc h
      rw [List.foldl_cons]
      refine ih _ fun y hy => ?_
      unfold addC putC at hy
      split at hy
      · obtain ⟨z, hz, rfl⟩ := List.mem_map.mp hy
        split
        · exact h z hz
        · exact h z hz
      · rcases List.mem_append.mp hy with hy | hy
        · exact h y hy
        · rw [List.mem_singleton] at hy
          subst hy
          exact ⟨fixN o, fixN_le o, rfl⟩
  exact key md [] fun y hy => by cases hy
end Mine

end
section
set_option maxRecDepth 100000
namespace Mine
open PySem PySem.W PySem.Calls PyProof.Rows
def perms : List (List Nat) := [[0, 1, 2, 3], [0, 1, 3, 2], [0, 2, 1, 3], [0, 2, 3, 1], [0, 3, 1, 2], [0, 3, 2, 1], [1, 0, 2, 3], [1, 0, 3, 2], [1, 2, 0, 3], [1, 2, 3, 0], [1, 3, 0, 2], [1, 3, 2, 0], [2, 0, 1, 3], [2, 0, 3, 1], [2, 1, 0, 3], [2, 1, 3, 0], [2, 3, 0, 1], [2, 3, 1, 0], [3, 0, 1, 2], [3, 0, 2, 1], [3, 1, 0, 2], [3, 1, 2, 0], [3, 2, 0, 1], [3, 2, 1, 0]]
def grps : List (List (List Nat)) := [[[0, 1, 2, 3]],
  [[0, 1, 2, 3], [0, 1, 3, 2]],
  [[0, 1, 2, 3], [0, 2, 1, 3]],
  [[0, 1, 2, 3], [0, 3, 2, 1]],
  [[0, 1, 2, 3], [1, 0, 2, 3]],
  [[0, 1, 2, 3], [1, 0, 3, 2]],
  [[0, 1, 2, 3], [2, 1, 0, 3]],
  [[0, 1, 2, 3], [2, 3, 0, 1]],
  [[0, 1, 2, 3], [3, 1, 2, 0]],
  [[0, 1, 2, 3], [3, 2, 1, 0]],
  [[0, 1, 2, 3], [0, 2, 3, 1], [0, 3, 1, 2]],
  [[0, 1, 2, 3], [1, 2, 0, 3], [2, 0, 1, 3]],
  [[0, 1, 2, 3], [1, 3, 2, 0], [3, 0, 2, 1]],
  [[0, 1, 2, 3], [2, 1, 3, 0], [3, 1, 0, 2]],
  [[0, 1, 2, 3], [0, 1, 3, 2], [1, 0, 2, 3], [1, 0, 3, 2]],
  [[0, 1, 2, 3], [0, 2, 1, 3], [3, 1, 2, 0], [3, 2, 1, 0]],
  [[0, 1, 2, 3], [0, 3, 2, 1], [2, 1, 0, 3], [2, 3, 0, 1]],
  [[0, 1, 2, 3], [1, 0, 3, 2], [2, 3, 0, 1], [3, 2, 1, 0]],
  [[0, 1, 2, 3], [1, 0, 3, 2], [2, 3, 1, 0], [3, 2, 0, 1]],
  [[0, 1, 2, 3], [1, 2, 3, 0], [2, 3, 0, 1], [3, 0, 1, 2]],
  [[0, 1, 2, 3], [1, 3, 0, 2], [2, 0, 3, 1], [3, 2, 1, 0]],
  [[0, 1, 2, 3], [0, 1, 3, 2], [0, 2, 1, 3], [0, 2, 3, 1], [0, 3, 1, 2], [0, 3, 2, 1]],
  [[0, 1, 2, 3], [0, 1, 3, 2], [2, 1, 0, 3], [2, 1, 3, 0], [3, 1, 0, 2], [3, 1, 2, 0]],
  [[0, 1, 2, 3], [0, 2, 1, 3], [1, 0, 2, 3], [1, 2, 0, 3], [2, 0, 1, 3], [2, 1, 0, 3]],
  [[0, 1, 2, 3], [0, 3, 2, 1], [1, 0, 2, 3], [1, 3, 2, 0], [3, 0, 2, 1], [3, 1, 2, 0]],
  [[0, 1, 2, 3], [0, 1, 3, 2], [1, 0, 2, 3], [1, 0, 3, 2], [2, 3, 0, 1], [2, 3, 1, 0], [3, 2, 0, 1], [3, 2, 1, 0]],
  [[0, 1, 2, 3], [0, 2, 1, 3], [1, 0, 3, 2], [1, 3, 0, 2], [2, 0, 3, 1], [2, 3, 0, 1], [3, 1, 2, 0], [3, 2, 1, 0]],
  [[0, 1, 2, 3], [0, 3, 2, 1], [1, 0, 3, 2], [1, 2, 3, 0], [2, 1, 0, 3], [2, 3, 0, 1], [3, 0, 1, 2], [3, 2, 1, 0]],
  [[0, 1, 2, 3], [0, 2, 3, 1], [0, 3, 1, 2], [1, 0, 3, 2], [1, 2, 0, 3], [1, 3, 2, 0], [2, 0, 1, 3], [2, 1, 3, 0], [2, 3, 0, 1], [3, 0, 2, 1], [3, 1, 0, 2], [3, 2, 1, 0]],
  [[0, 1, 2, 3], [0, 1, 3, 2], [0, 2, 1, 3], [0, 2, 3, 1], [0, 3, 1, 2], [0, 3, 2, 1], [1, 0, 2, 3], [1, 0, 3, 2], [1, 2, 0, 3], [1, 2, 3, 0], [1, 3, 0, 2], [1, 3, 2, 0], [2, 0, 1, 3], [2, 0, 3, 1], [2, 1, 0, 3], [2, 1, 3, 0], [2, 3, 0, 1], [2, 3, 1, 0], [3, 0, 1, 2], [3, 0, 2, 1], [3, 1, 0, 2], [3, 1, 2, 0], [3, 2, 0, 1], [3, 2, 1, 0]]]

def chk (p q : List Nat) : Bool := match madeS [p, q] with
  | some md => let n := md.length; grps.any fun G => Nat.beq n G.length && md.isPerm G
  | none => false
theorem chk_spec {p q : List Nat} (h : chk p q = true) : ∃ md G, madeS [p, q] = some md ∧ G ∈ grps ∧ md.Perm G := by
  unfold chk at h
  cases e : madeS [p, q] with
  | none => rw [e] at h; cases h
  | some md =>
    rw [e] at h
    obtain ⟨G, hG, h2⟩ := List.any_eq_true.mp h
    rw [Bool.and_eq_true] at h2
    exact ⟨md, G, rfl, hG, List.isPerm_iff.mp h2.2⟩
theorem chk_0 : perms.all (chk [0, 1, 2, 3]) = true := by decide +kernel
theorem chk_1 : perms.all (chk [0, 1, 3, 2]) = true := by decide +kernel
theorem chk_2 : perms.all (chk [0, 2, 1, 3]) = true := by decide +kernel
theorem chk_3 : perms.all (chk [0, 2, 3, 1]) = true := by decide +kernel
theorem chk_4 : perms.all (chk [0, 3, 1, 2]) = true := by decide +kernel
theorem chk_5 : perms.all (chk [0, 3, 2, 1]) = true := by decide +kernel
theorem chk_6 : perms.all (chk [1, 0, 2, 3]) = true := by decide +kernel
theorem chk_7 : perms.all (chk [1, 0, 3, 2]) = true := by decide +kernel
theorem chk_8 : perms.all (chk [1, 2, 0, 3]) = true := by decide +kernel
theorem chk_9 : perms.all (chk [1, 2, 3, 0]) = true := by decide +kernel
theorem chk_10 : perms.all (chk [1, 3, 0, 2]) = true := by decide +kernel
theorem chk_11 : perms.all (chk [1, 3, 2, 0]) = true := by decide +kernel
theorem chk_12 : perms.all (chk [2, 0, 1, 3]) = true := by decide +kernel
theorem chk_13 : perms.all (chk [2, 0, 3, 1]) = true := by decide +kernel
theorem chk_14 : perms.all (chk [2, 1, 0, 3]) = true := by decide +kernel
theorem chk_15 : perms.all (chk [2, 1, 3, 0]) = true := by decide +kernel
theorem chk_16 : perms.all (chk [2, 3, 0, 1]) = true := by decide +kernel
theorem chk_17 : perms.all (chk [2, 3, 1, 0]) = true := by decide +kernel
theorem chk_18 : perms.all (chk [3, 0, 1, 2]) = true := by decide +kernel
theorem chk_19 : perms.all (chk [3, 0, 2, 1]) = true := by decide +kernel
theorem chk_20 : perms.all (chk [3, 1, 0, 2]) = true := by decide +kernel
theorem chk_21 : perms.all (chk [3, 1, 2, 0]) = true := by decide +kernel
theorem chk_22 : perms.all (chk [3, 2, 0, 1]) = true := by decide +kernel
theorem chk_23 : perms.all (chk [3, 2, 1, 0]) = true := by decide +kernel
theorem made_all {p q : List Nat} (hp : p ∈ perms) (hq : q ∈ perms) : ∃ md G, madeS [p, q] = some md ∧ G ∈ grps ∧ md.Perm G := by
  refine chk_spec ?_
  simp only [perms, List.mem_cons, List.not_mem_nil, or_false] at hp
  rcases hp with rfl | rfl | rfl | rfl | rfl | rfl | rfl | rfl | rfl | rfl | rfl | rfl | rfl | rfl | rfl | rfl | rfl | rfl | rfl | rfl | rfl | rfl | rfl | rfl
  · exact List.all_eq_true.mp chk_0 q hq
  · exact List.all_eq_true.mp chk_1 q hq
  · exact List.all_eq_true.mp chk_2 q hq
  · exact List.all_eq_true.mp chk_3 q hq
  · exact List.all_eq_true.mp chk_4 q hq
  · exact List.all_eq_true.mp chk_5 q hq
  · exact List.all_eq_true.mp chk_6 q hq
  · exact List.all_eq_true.mp chk_7 q hq
  · exact List.all_eq_true.mp chk_8 q hq
  · exact List.all_eq_true.mp chk_9 q hq
  · exact List.all_eq_true.mp chk_10 q hq
  · exact List.all_eq_true.mp chk_11 q hq
  · exact List.all_eq_true.mp chk_12 q hq
  · exact List.all_eq_true.mp chk_13 q hq
  · exact List.all_eq_true.mp chk_14 q hq
  · exact List.all_eq_true.mp chk_15 q hq
  · exact List.all_eq_true.mp chk_16 q hq
  · exact List.all_eq_true.mp chk_17 q hq
  · exact List.all_eq_true.mp chk_18 q hq
  · exact List.all_eq_true.mp chk_19 q hq
  · exact List.all_eq_true.mp chk_20 q hq
  · exact List.all_eq_true.mp chk_21 q hq
  · exact List.all_eq_true.mp chk_22 q hq
  · exact List.all_eq_true.mp chk_23 q hq
/-! ## what is drawn -/
def drawI (p : List Nat × List Nat) (i : Nat) : List Nat × List Nat := (p.1.eraseIdx i, p.2 ++ [p.1.getD i 0])
theorem draw_all : ∀ i, i < 4 → ∀ j, j < 3 → ∀ k, k < 2 → (drawI (drawI (drawI (drawI (List.range 4, []) i) j) k) 0).2 ∈ perms := by decide +kernel
theorem draw_mem (ns : List Int) : drawS ns ∈ perms := by
  unfold drawS
  have h4 := drawFour_len ns
  match drawFour ns, h4 with
  | [a, b, c, d], _ =>
    have lt : ∀ (n : Int) (m : Nat), 0 < m → (n.fmod m).toNat < m := fun n m hm => by
      have h1 := Int.fmod_nonneg_of_pos n (show (0 : Int) < m by omega)
      have h2 := Int.fmod_lt_of_pos n (show (0 : Int) < m by omega)
      omega
    have len : ∀ (p : List Nat × List Nat) (i : Nat), i < p.1.length → (drawI p i).1.length = p.1.length - 1 := fun p i h => by
      simp only [drawI]; rw [List.length_eraseIdx_of_lt h]
    have st : ∀ (p : List Nat × List Nat) (n : Int), drawStep p n = drawI p (n.fmod p.1.length).toNat := fun _ _ => rfl
    simp only [List.foldl_cons, List.foldl_nil]
    rw [st (List.range 4, []) a]
    have l0 : (List.range 4).length = 4 := rfl
    have ha := lt a 4 (by omega)
    rw [show ((List.range 4, ([] : List Nat)).1).length = 4 from rfl]
    generalize (a.fmod (4 : Nat)).toNat = i at ha
    have l1 : (drawI (List.range 4, []) i).1.length = 3 := len _ i (by simpa using ha)
    rw [st (drawI (List.range 4, []) i) b, l1]
    have hb := lt b 3 (by omega)
    generalize (b.fmod (3 : Nat)).toNat = j at hb
    have l2 : (drawI (drawI (List.range 4, []) i) j).1.length = 2 := by rw [len _ j (by omega), l1]
    rw [st (drawI (drawI (List.range 4, []) i) j) c, l2]
    have hc := lt c 2 (by omega)
    generalize (c.fmod (2 : Nat)).toNat = k at hc
    have l3 : (drawI (drawI (drawI (List.range 4, []) i) j) k).1.length = 1 := by rw [len _ k (by omega), l2]
    rw [st _ d, l3]
    have hd := lt d 1 (by omega)
    have : (d.fmod (1 : Nat)).toNat = 0 := by omega
    rw [this]
    exact draw_all i ha j hb k hc
end Mine

end
section
set_option maxRecDepth 100000
namespace Mine
open PySem PySem.W PySem.Calls PyProof.Rows
/-! ## turned about -/
theorem then_turn : ∀ a ∈ perms, ∀ b ∈ perms, thenS (turnS a) (turnS b) = (thenS a b).map turnS := by decide +kernel
theorem then_mem : ∀ a ∈ perms, ∀ b ∈ perms, (thenS a b).getD [] ∈ perms ∧ (thenS a b).isSome = true := by decide +kernel
theorem turn_inj : ∀ a ∈ perms, ∀ b ∈ perms, turnS a = turnS b → a = b := by decide +kernel
theorem turn_mem : ∀ a ∈ perms, turnS a ∈ perms := by decide +kernel
theorem perm_ord : ∀ a ∈ perms, a.length = 4 ∧ ∀ x ∈ a, x < 4 := by decide +kernel
theorem madeIn_turn {one : List Nat} (h1 : one ∈ perms) : ∀ (mk f : List (List Nat)), (∀ o ∈ mk, o ∈ perms) → (∀ o ∈ f, o ∈ perms) →
    madeIn (turnS one) (mk.map turnS) (f.map turnS) = (madeIn one mk f).map (fun l => l.map turnS) ∧ ∀ f', madeIn one mk f = some f' → ∀ o ∈ f', o ∈ perms := by
  intro mk
  induction mk with
  | nil => intro f _ hf; exact ⟨rfl, fun f' e => by cases e; exact hf⟩
  | cons k rest ih =>
    intro f hm hf
    have hk := hm k (.head _)
    have hr : ∀ o ∈ rest, o ∈ perms := fun o ho => hm o (.tail _ ho)
    obtain ⟨m1, m2⟩ := then_mem one h1 k hk
    obtain ⟨a, ha⟩ := Option.isSome_iff_exists.mp m2
    rw [ha] at m1
    have ham : a ∈ perms := m1
    have ht := then_turn one h1 k hk
    rw [ha] at ht
    have hin : turnS a ∈ f.map turnS ↔ a ∈ f := by
      constructor
      · intro h
        obtain ⟨b, hb, e⟩ := List.mem_map.mp h
        exact turn_inj b (hf b hb) a ham e ▸ hb
      · exact List.mem_map_of_mem
    simp only [List.map_cons, madeIn, ht, ha, Option.map_some, Option.bind_some, hin, List.length_map]
    by_cases c : a ∈ f
    · simp only [c, if_true]
      exact ih f hr hf
    · simp only [c, if_false]
      by_cases c2 : f.length < 500
      · simp only [c2, if_true]
        have := ih (f ++ [a]) hr (fun o ho => by
          rcases List.mem_append.mp ho with ho | ho
          · exact hf o ho
          · rw [List.mem_singleton] at ho; exact ho ▸ ham)
        rw [List.map_append] at this
        exact this
      · simp only [c2, if_false]
        exact ⟨rfl, fun f' e => by cases e⟩
theorem madeGo_turn {mk : List (List Nat)} (hm : ∀ o ∈ mk, o ∈ perms) : ∀ (n : Nat) (f : List (List Nat)) (i : Nat), (∀ o ∈ f, o ∈ perms) →
    madeGo (mk.map turnS) n (f.map turnS) i = (madeGo mk n f i).map (fun l => l.map turnS) := by
  intro n
  induction n with
  | zero => intro f i _; rfl
  | succ n ih =>
    intro f i hf
    simp only [madeGo, List.getElem?_map]
    cases e : f[i]? with
    | none => rfl
    | some one =>
      have h1 := hf one (List.mem_of_getElem? e)
      obtain ⟨h2, h3⟩ := madeIn_turn h1 mk f hm hf
      simp only [Option.map_some, h2]
      cases e2 : madeIn one mk f with
      | none => rfl
      | some f' => exact ih f' (i + 1) (h3 f' e2)
theorem madeS_turn {mk : List (List Nat)} (hm : ∀ o ∈ mk, o ∈ perms) : madeS (mk.map turnS) = (madeS mk).map (fun l => l.map turnS) := by
  have := madeGo_turn hm 100 [List.range 4] 0 (by decide +kernel)
  exact this
/-! ## the thirty groups -/
def lotsF (G : List (List Nat)) : Nat := (lotsGo (leadO G) 20 ints4 0).getD 0
def pairsF (G : List (List Nat)) : Nat := (lotsGo (leadT G) 20 (twosUp 4) 0).getD 0
def colF (G : List (List Nat)) : Nat := (lotsGo (leadR G) 20 (rowsUp 16) 0).getD 0
theorem g1 : ∀ G ∈ grps, G.length ≤ 24 ∧ G.length ≠ 0 ∧ (24 : Int).fmod G.length = 0 := by decide +kernel
theorem g2 : ∀ G ∈ grps, ∀ o ∈ G, o ∈ perms := by decide +kernel
theorem g3 : ∀ G ∈ grps, ∀ k, k < 4 → ((reachK G k).length * cnt G k k = G.length ∧ ∀ n, n < 4 → Int.ofNat n ∈ reachK G k → cnt G k n = cnt G k k ∧ cnt G n n = cnt G k k) := by decide +kernel
theorem g4 : ∀ G ∈ grps, lotsGo (leadO G) 20 ints4 0 = some (lotsF G) ∧ lotsGo (leadO (G.map turnS)) 20 ints4 0 = some (lotsF G) ∧ lotsF G ≤ 100 ∧ (G.map fun o => (Int.ofNat (fixN o) : Int)).sum = (lotsF G : Int) * (G.length : Int) := by decide +kernel
theorem g5 : ∀ G ∈ grps, lotsGo (leadT G) 20 (twosUp 4) 0 = some (pairsF G) ∧ pairsF G ≤ 100 ∧ (G.map fun o => ((Int.ofNat (fixN o)) ^ 2 : Int)).sum = (pairsF G : Int) * (G.length : Int) := by decide +kernel
theorem g6 : ∀ G ∈ grps, lotsGo (leadR G) 20 (rowsUp 16) 0 = some (colF G) ∧ colF G ≤ 100 ∧ (G.map fun o => ((2 ^ ringsN o : Nat) : Int)).sum = (colF G : Int) * (G.length : Int) := by decide +kernel
theorem g7 : ∀ o ∈ perms, ringsS o = some (ringsN o) ∧ ringsN o ≤ 4 := by decide +kernel
theorem sum_ones {α : Type} (l : List α) : (l.map fun _ => (1 : Int)).sum = (l.length : Int) := by
  induction l with
  | nil => rfl
  | cons a l ih => rw [List.map_cons, List.sum_cons, ih, List.length_cons]; push_cast; omega
/-- every pair of draws makes the law answer True -/
theorem law_ok (ns ms : List Int) : ∃ md td lots pairs col, LawOK [drawS ns, drawS ms] md td lots pairs col := by
  have hp := draw_mem ns
  have hq := draw_mem ms
  have hm : ∀ o ∈ [drawS ns, drawS ms], o ∈ perms := fun o ho => by
    rcases List.mem_cons.mp ho with rfl | ho
    · exact hp
    · rw [List.mem_singleton] at ho; exact ho ▸ hq
  obtain ⟨md, G, e, hG, pm⟩ := made_all hp hq
  obtain ⟨a1, a2, a3⟩ := g1 G hG
  obtain ⟨b1, b2, b3, b4⟩ := g4 G hG
  obtain ⟨c1, c2, c3⟩ := g5 G hG
  obtain ⟨d1, d2, d3⟩ := g6 G hG
  have hlen := pm.length_eq
  have hmem : ∀ o ∈ md, o ∈ perms := fun o ho => g2 G hG o (pm.mem_iff.mp ho)
  have hcnt : ∀ k n, cnt md k n = cnt G k n := fun k n => (pm.filter _).length_eq
  have hreach : ∀ k, (reachK md k).length = (reachK G k).length ∧ ∀ e, e ∈ reachK md k ↔ e ∈ reachK G k := fun k => keysOf_perm (pm.map _)
  refine ⟨md, md.map turnS, lotsF G, pairsF G, colF G, ?_⟩
  exact {
    omk := fun o ho => perm_ord o (hm o ho)
    made := e
    omd := fun o ho => perm_ord o (hmem o ho)
    zmd := by omega
    div := by rw [hlen]; exact a3
    ne := by omega
    reach := fun k hk => by
      obtain ⟨r1, r2⟩ := g3 G hG k hk
      obtain ⟨s1, s2⟩ := hreach k
      refine ⟨by rw [s1, hcnt, hlen]; exact r1, fun n hn hm => ?_⟩
      rw [hcnt, hcnt, hcnt]
      exact r2 n hn ((s2 _).mp hm)
    hlots := by rw [lotsGo_congr (leadO_perm pm)]; exact b1
    lz := by omega
    sum1 := by
      rw [sumC_eq, calls_sum]
      exact sum_ones md
    sumL := by
      have h := calls_sum (fun n => n) md
      unfold sumF at h
      rw [h, hlen, ← b4]
      exact sum_perm (pm.map _)
    keys := calls_keys md
    hpairs := by rw [lotsGo_congr (leadT_perm pm)]; exact c1
    pz := by omega
    sumP := by
      have h := calls_sum (fun n => n ^ 2) md
      unfold sumF at h
      rw [h, hlen, ← c3]
      exact sum_perm (pm.map _)
    hcol := by rw [lotsGo_congr (leadR_perm pm)]; exact d1
    cz := by omega
    rings := fun o ho => ⟨ringsN o, (g7 o (hmem o ho)).2, (g7 o (hmem o ho)).1⟩
    sumR := by
      rw [hlen, ← d3]
      exact sum_perm (pm.map _)
    turned := by rw [madeS_turn hm, e]; rfl
    otd := fun o ho => by
      obtain ⟨z, hz, rfl⟩ := List.mem_map.mp ho
      exact perm_ord _ (turn_mem z (hmem z hz))
    ztd := by rw [List.length_map]; omega
    len := by rw [List.length_map]
    lotsT := by rw [lotsGo_congr (leadO_perm (pm.map turnS))]; exact b2 }
end Mine

end
set_option maxRecDepth 100000
namespace Mine
open PySem PySem.W PySem.Calls PyProof.Rows
theorem law_fin {w : World} {s₀ s₁ : Shared} {mg mb : Str → Option Value} {ns : List Int} {a fa : Addr} {vs : List Value} {q : Program} {loose : List Str} (KX : (H.hd.heap_39 w.params).In s₁.heap) (hT : TabsAt [(70, 68)] s₁.heap) (T : Top q loose (ExcName.means s₀.heap) mg mb s₁.heap) (hL : s₁.heap.IsList a vs.toArray) (hI : IntsAre vs ns) (hlen : ¬ ((63 : Nat) : Int) < (ns.length : Int)) (hg : s₁.gens = #[]) (hm : mg "law" = some (.ref fa))
    {args : List WData} (hp : rwC.post args (.bool true) args = true) {cl : Str → Option Addr} {mean : ExcName → Option Value} {E : Value → Shared → Prop} :
    wpAny (model pr w) callerA (Gd (call (.ref fa) [.ref a])) (fun v s' => GoodWG rwC cl mean args s₁ (.ok (.ret v)) s') E s₁ := by
  have e : mg "law" = some (.ref 71) := mg_of KX T.g rfl
  rw [e] at hm
  obtain rfl : (71 : Addr) = fa := by injection hm with hm; injection hm
  obtain ⟨md, td, lots, pairs, col, K⟩ := law_ok (ns.take 4) ((ns.drop 4).take 4)
  exact law_main KX hT T hL hI (by omega) hg hp (fun _ _ => rfl) K
end Mine
open PySem PySem.W PyProof.Rows
set_option maxHeartbeats 8000000 in
theorem PySem.Challenge.cw_hp0001_01_holds : PySem.Challenge.rw_hp0001_01.Holds :=
  Mine.H.hd (by
    k_fill
    intro w s₀ s₁ mg mb G Y fa o pm cd doc dV kV ho hd hcd hD hmg hg args vals as hpre hlay hrd hwl hlo
    have KX := km_in_of Y
    km_tabs Y
    have X := (Ground.X G).1
    have V := (Ground.X G).2
    refine Ground.open G ?_
    intro T B D TE TW
    try (refine guard_noD D (by decide +kernel) ?_; clear D)
    have hmg2 : mg "law" = some (.ref fa) := hmg
    km_lay T hmg ho hd cd
    clear hmg
    wrow_args hpre hlay hrd hwl hlo
    clear hD Y hd hcd ho
    exact Mine.law_fin KX hT9 T (by assumption) (by assumption) (by assumption) hg hmg2 (by first | wrow_post | (show PySem.Challenge.rw_hp0001_01.row.claim.post _ _ _ = true; wrow_post) | (simp [Mine.rwC, OpenLaw.row, WTm.holds, WTm.value]; done) | trace_state))

