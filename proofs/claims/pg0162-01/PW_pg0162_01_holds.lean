import PyProof.Rows.All
import Wide.All
import OpenK.AllK
import Wide.FinOn
import PySem.Challenge.RW_pg0162_01
open PySem PySem.W PyProof.Rows PySem.Spec PySem.Calls
set_option Elab.async false
set_option compiler.extract_closed false
namespace Mine
set_option maxRecDepth 100000
set_option maxHeartbeats 8000000
open_top hd for PySem.Challenge.rw_pg0162_01

/- an inequality of addresses that stands in the context, alone or in a conjunction -/
theorem cj0 {X : Prop} (h : X) : X := h
theorem cj1 {X  r : Prop} (h : X ∧ r) : X := h.1
theorem cj2 {X p1 r : Prop} (h : p1 ∧ X ∧ r) : X := h.2.1
theorem cj2z {X p1 : Prop} (h : p1 ∧ X) : X := h.2
theorem cj3 {X p1 p2 r : Prop} (h : p1 ∧ p2 ∧ X ∧ r) : X := h.2.2.1
theorem cj3z {X p1 p2 : Prop} (h : p1 ∧ p2 ∧ X) : X := h.2.2
theorem cj4 {X p1 p2 p3 r : Prop} (h : p1 ∧ p2 ∧ p3 ∧ X ∧ r) : X := h.2.2.2.1
theorem cj4z {X p1 p2 p3 : Prop} (h : p1 ∧ p2 ∧ p3 ∧ X) : X := h.2.2.2
theorem cj5 {X p1 p2 p3 p4 r : Prop} (h : p1 ∧ p2 ∧ p3 ∧ p4 ∧ X ∧ r) : X := h.2.2.2.2.1
theorem cj5z {X p1 p2 p3 p4 : Prop} (h : p1 ∧ p2 ∧ p3 ∧ p4 ∧ X) : X := h.2.2.2.2
theorem cj6 {X p1 p2 p3 p4 p5 r : Prop} (h : p1 ∧ p2 ∧ p3 ∧ p4 ∧ p5 ∧ X ∧ r) : X := h.2.2.2.2.2.1
theorem cj6z {X p1 p2 p3 p4 p5 : Prop} (h : p1 ∧ p2 ∧ p3 ∧ p4 ∧ p5 ∧ X) : X := h.2.2.2.2.2
theorem cj7 {X p1 p2 p3 p4 p5 p6 r : Prop} (h : p1 ∧ p2 ∧ p3 ∧ p4 ∧ p5 ∧ p6 ∧ X ∧ r) : X := h.2.2.2.2.2.2.1
theorem cj7z {X p1 p2 p3 p4 p5 p6 : Prop} (h : p1 ∧ p2 ∧ p3 ∧ p4 ∧ p5 ∧ p6 ∧ X) : X := h.2.2.2.2.2.2
theorem neP {a b k : Nat} (h : @LT.lt Nat _ a b) : @Ne Nat a (b + k) := Nat.ne_of_lt (Nat.lt_of_lt_of_le h (Nat.le_add_right _ _))
theorem neQ {a k l : Nat} (h : k ≠ l) : @Ne Nat (a + k) (a + l) := fun e => h (Nat.add_left_cancel e)
theorem neR {a k : Nat} (h : 0 < k) : @Ne Nat a (a + k) := Nat.ne_of_lt (Nat.lt_add_of_pos_right h)

set_option maxRecDepth 100000
abbrev Led := List (Addr × Obj)

/- two tables of code objects, and the code objects that they name -/
def SlotOk (line : Nat) (qual : Str) (ps : Array Value) (rest : Led) : Prop :=
  ps = #[] ∨ ∃ (c' : Addr) (oc : Obj) (vs : Array Value) (t : Tok), ps = #[rawInt (line : Int), rawInt ((4 : Nat) : Int), .ref c'] ∧ (c', oc) ∈ rest ∧ oc.data = .fields vs ∧ vs[1]? = some (.str qual t)
def qualA : Str := Str.ofString "_digits2int" ++ ".<locals>." ++ Str.ofString "inner"
def qualB : Str := Str.ofString "_int2digits" ++ ".<locals>." ++ Str.ofString "inner"
def TB (t : Led) : Prop := ∃ (ps1 ps2 : Array Value) (rest : Led), t = (42, tabObj ps1) :: (35, tabObj ps2) :: rest ∧ SlotOk 75 qualA ps1 rest ∧ SlotOk 60 qualB ps2 rest ∧
  (∀ p ∈ rest, ∃ vs, p.2.data = .fields vs) ∧ ∀ p ∈ rest, p.1 ≠ 42 ∧ p.1 ≠ 35
theorem SlotOk.more {line : Nat} {qual : Str} {ps : Array Value} {rest : Led} (q : Addr × Obj) (S : SlotOk line qual ps rest) : SlotOk line qual ps (q :: rest) := by
  rcases S with h | ⟨c', oc, vs, t, a, b, c, d⟩
  · exact .inl h
  · exact .inr ⟨c', oc, vs, t, a, .tail _ b, c, d⟩
theorem TB.data {t : Led} (h : TB t) : ∀ p ∈ t, ∃ vs, p.2.data = .fields vs := by
  obtain ⟨ps1, ps2, rest, rfl, _, _, hf, _⟩ := h
  intro p hp
  rcases List.mem_cons.mp hp with rfl | hp
  · exact ⟨ps1, rfl⟩
  rcases List.mem_cons.mp hp with rfl | hp
  · exact ⟨ps2, rfl⟩
  exact hf p hp
theorem TB.off {t news : Led} {h₀ h : Heap} {L a : Addr} {o : Obj} (htb : TB t) (N : News h₀ L h news) (hm : (a, o) ∈ news) (hs : ∀ p ∈ t, p ∈ news) (hd : ∀ vs, o.data ≠ .fields vs) : ∀ p ∈ t, p.1 ≠ a := by
  intro p hp e
  obtain ⟨vs, hv⟩ := htb.data p hp
  have h1 := (N p (hs p hp)).1
  have h2 := (N _ hm).1
  rw [e] at h1
  have h3 : p.2 = o := Option.some.inj (h1.symm.trans h2)
  exact hd vs (h3 ▸ hv)
theorem TB.offAt {t : Led} {h₀ h : Heap} {L a : Addr} {o : Obj} (htb : TB t) (N : News h₀ L h t) (ho : h.get? a = some o) (hd : ∀ vs, o.data ≠ .fields vs) : ∀ p ∈ t, p.1 ≠ a := by
  intro p hp e
  obtain ⟨vs, hv⟩ := htb.data p hp
  have h1 := (N p hp).1
  rw [e] at h1
  have h3 : p.2 = o := Option.some.inj (h1.symm.trans ho)
  exact hd vs (h3 ▸ hv)

/- a ledger that ends in tables -/
inductive App : Led → Led → Led → Prop
  | nil {t : Led} : App t [] t
  | cons {p : Addr × Obj} {l own t : Led} : App l own t → App (p :: l) (p :: own) t
theorem App.eq : ∀ {l own t : Led}, App l own t → l = own ++ t
  | _, _, _, .nil => rfl
  | _, _, _, .cons (p := p) h => by rw [h.eq]; rfl
theorem App.gen : ∀ (own t : Led), App (own ++ t) own t
  | [], _ => .nil
  | _ :: r, t => .cons (App.gen r t)
def Dis (own t : Led) : Prop := ∀ q ∈ own, ∀ r ∈ t, r.1 ≠ q.1
theorem Dis.nil {t : Led} : Dis [] t := fun _ h => nomatch h
theorem Dis.cons {p : Addr × Obj} {own t : Led} (h : ∀ r ∈ t, r.1 ≠ p.1) (r : Dis own t) : Dis (p :: own) t := fun q hq => by
  rcases List.mem_cons.mp hq with rfl | hq
  · exact h
  · exact r q hq

theorem newsSub {h₀ h : Heap} {L : Addr} {l l' : Led} (N : News h₀ L h l) (hs : ∀ p ∈ l', p ∈ l) : News h₀ L h l' := fun p hp => N p (hs p hp)
theorem updApp {d : Addr} {o : Obj} {l : Led} {g : Obj → Led} : ∀ {own : Led}, (∀ p ∈ own, p.1 ≠ d) → UpdF d o l g → UpdF d o (own ++ l) (fun o' => own ++ g o')
  | [], _, U => U
  | _ :: _, h, U => .tail (h _ (.head _)) (updApp (fun p hp => h p (.tail _ hp)) U)

section
variable {M : Model} {A : Around} {E : Value → Shared → Prop} {s : Shared} {h₀ : Heap} {L a c : Addr} {m mg mb : Str → Option Value} {cn : Str} {cs : Scope} {ccd : Value} {cl : List (Str × Addr)}
  {p : Program} {loose : List Str} {mean : ExcName → Option Value} {name qual : Str} {params : Arguments} {body : List Stmt} {scope : Scope} {pos : Pos} {firstLine : Nat} {clos : List (Str × Addr)} {pre t : Led}
theorem nestA {Q : Value → Shared → Prop} (F : Fr h₀ L s.heap m) (N : News h₀ L s.heap (pre ++ t)) (htb : TB t) (hpre : ∀ p ∈ pre, p.1 ≠ 42) (T : Top p loose mean mg mb h₀) (C : CodeHd h₀ c 42) (hcd : ccd = .ref c)
    (hl : pos.line = 75) (hc : pos.col = 4) (hq : qual = qualA) (hcl : closureFor scope (envX cn cs L a ccd cl) = pure clos)
    (h : ∀ f c' oc vs tt ctv doc h' tk t', TB t' → Fr h₀ L h' m → News h₀ L h' ((f, fnMade name qual params body scope clos doc ((mg "__name__").getD .none) c' ctv) :: (pre ++ t')) → (c', oc) ∈ t' → oc.data = .fields vs → vs[1]? = some (.str qual tt) → (∀ q ∈ pre, q.1 < f) → Q (.ref f) { s with heap := h', toks := tk }) :
    wpAny M A (makeFunction name qual params (.stmts body) scope (envX cn cs L a ccd cl) [] [] [] pos firstLine) Q E s := by
  obtain ⟨ps1, ps2, rest, rfl, S1, S2, hf, hne⟩ := htb
  have hP : ∀ p ∈ ((35, tabObj ps2) :: rest : Led), p.1 ≠ 42 := by
    intro p hp
    rcases List.mem_cons.mp hp with rfl | hp
    · show (35 : Nat) ≠ 42; decide
    · exact (hne p hp).1
  rcases S1 with rfl | ⟨c', oc, vs, tt, rfl, hm, hd, hv⟩
  · refine nest_K F N T C hcd (updApp hpre (.head hP)) True.intro rfl hcl fun f c' oc vs tt ctv doc h' tk F' N' hd hv hlt hlt2 => ?_
    refine h f c' oc vs tt ctv doc h' tk ((42, tabObj #[rawInt pos.line, rawInt pos.col, .ref c']) :: (35, tabObj ps2) :: (c', oc) :: rest) ?_ F' ?_ (by simp) hd hv fun q hq => Nat.lt_trans (hlt q (List.mem_append_left _ hq)) hlt2
    · have hA := hlt _ (List.mem_append_right _ (.head _))
      have hB := hlt _ (List.mem_append_right _ (.tail _ (.head _)))
      refine ⟨_, ps2, _, rfl, .inr ⟨c', oc, vs, tt, by rw [hl, hc], .head _, hd, by rw [← hq]; exact hv⟩, S2.more _, ?_, ?_⟩
      · intro p hp
        rcases List.mem_cons.mp hp with rfl | hp
        · exact ⟨vs, hd⟩
        · exact hf p hp
      · intro p hp
        rcases List.mem_cons.mp hp with rfl | hp
        · exact ⟨Nat.ne_of_gt hA, Nat.ne_of_gt hB⟩
        · exact hne p hp
    · refine newsSub N' fun q hq => ?_
      simp only [List.mem_cons, List.mem_append] at hq ⊢
      rcases hq with h | h | h | h | h | h <;> simp_all
  · refine nestHit_K (c' := c') F N T C hcd (List.mem_append_right _ (.head _)) (by simp [TriplesOk, rawInt]) (by simp [codeAmong, rawInt, hl, hc]) hcl fun f ctv doc h' tk F' N' hlt => ?_
    exact h f c' oc vs tt ctv doc h' tk _ ⟨_, ps2, rest, rfl, .inr ⟨c', oc, vs, tt, rfl, hm, hd, hv⟩, S2, hf, hne⟩ F' N' (.tail _ (.tail _ hm)) hd (by rw [hq]; exact hv) fun q hq => hlt q (List.mem_append_left _ hq)
theorem nestB {Q : Value → Shared → Prop} (F : Fr h₀ L s.heap m) (N : News h₀ L s.heap (pre ++ t)) (htb : TB t) (hpre : ∀ p ∈ pre, p.1 ≠ 35) (T : Top p loose mean mg mb h₀) (C : CodeHd h₀ c 35) (hcd : ccd = .ref c)
    (hl : pos.line = 60) (hc : pos.col = 4) (hq : qual = qualB) (hcl : closureFor scope (envX cn cs L a ccd cl) = pure clos)
    (h : ∀ f c' oc vs tt ctv doc h' tk t', TB t' → Fr h₀ L h' m → News h₀ L h' ((f, fnMade name qual params body scope clos doc ((mg "__name__").getD .none) c' ctv) :: (pre ++ t')) → (c', oc) ∈ t' → oc.data = .fields vs → vs[1]? = some (.str qual tt) → (∀ q ∈ pre, q.1 < f) → Q (.ref f) { s with heap := h', toks := tk }) :
    wpAny M A (makeFunction name qual params (.stmts body) scope (envX cn cs L a ccd cl) [] [] [] pos firstLine) Q E s := by
  obtain ⟨ps1, ps2, rest, rfl, S1, S2, hf, hne⟩ := htb
  have hP : ∀ p ∈ (rest : Led), p.1 ≠ 35 := fun p hp => (hne p hp).2
  rcases S2 with rfl | ⟨c', oc, vs, tt, rfl, hm, hd, hv⟩
  · refine nest_K F N T C hcd (updApp hpre (.tail (show (42 : Nat) ≠ 35 by decide) (.head hP))) True.intro rfl hcl fun f c' oc vs tt ctv doc h' tk F' N' hd hv hlt hlt2 => ?_
    refine h f c' oc vs tt ctv doc h' tk ((42, tabObj ps1) :: (35, tabObj #[rawInt pos.line, rawInt pos.col, .ref c']) :: (c', oc) :: rest) ?_ F' ?_ (by simp) hd hv fun q hq => Nat.lt_trans (hlt q (List.mem_append_left _ hq)) hlt2
    · have hA := hlt _ (List.mem_append_right _ (.head _))
      have hB := hlt _ (List.mem_append_right _ (.tail _ (.head _)))
      refine ⟨ps1, _, _, rfl, S1.more _, .inr ⟨c', oc, vs, tt, by rw [hl, hc], .head _, hd, by rw [← hq]; exact hv⟩, ?_, ?_⟩
      · intro p hp
        rcases List.mem_cons.mp hp with rfl | hp
        · exact ⟨vs, hd⟩
        · exact hf p hp
      · intro p hp
        rcases List.mem_cons.mp hp with rfl | hp
        · exact ⟨Nat.ne_of_gt hA, Nat.ne_of_gt hB⟩
        · exact hne p hp
    · refine newsSub N' fun q hq => ?_
      simp only [List.mem_cons, List.mem_append] at hq ⊢
      rcases hq with h | h | h | h | h | h <;> simp_all
  · refine nestHit_K (c' := c') F N T C hcd (List.mem_append_right _ (.tail _ (.head _))) (by simp [TriplesOk, rawInt]) (by simp [codeAmong, rawInt, hl, hc]) hcl fun f ctv doc h' tk F' N' hlt => ?_
    exact h f c' oc vs tt ctv doc h' tk _ ⟨ps1, _, rest, rfl, S1, .inr ⟨c', oc, vs, tt, rfl, hm, hd, hv⟩, hf, hne⟩ F' N' (.tail _ (.tail _ hm)) hd (by rw [hq]; exact hv) fun q hq => hlt q (List.mem_append_left _ hq)
end

/- hide the goal while a chain is taken apart: each level would copy it -/
theorem hide {C : Prop} (h : ∀ Z : Prop, (C → Z) → Z) : C := h C id
theorem holdQ {α : Type} {M : Model} {A : Around} {t : Sem α} {Q : α → Shared → Prop} {E : Value → Shared → Prop} {s : Shared} (h : ∀ Q' : α → Shared → Prop, (∀ v s', Q v s' → Q' v s') → wpAny M A t Q' E s) : wpAny M A t Q E s := h Q fun _ _ h => h
theorem holdT {α β : Type} {M : Model} {A : Around} {t : Sem α} {u : Sem β} {Q : β → Shared → Prop} {E E' : Value → Shared → Prop} {s : Shared} (h : ∀ Q' : β → Shared → Prop, (∀ v s', Q v s' → Q' v s') → wpAny M A t (fun _ s₂ => wpAny M A u Q' E' s₂) E s) : wpAny M A t (fun _ s₂ => wpAny M A u Q E' s₂) E s := h Q fun _ _ h => h
/- the end of a body: what it hands back, what it has made, the tables -/
def Ret (TP : Led → Prop) (g : Heap) (L' : Addr) (s₀ : Shared) (W : Value → Led → Prop) (v : Value) (s' : Shared) : Prop :=
  ∃ h' tk m' new t', s' = { s₀ with heap := h', toks := tk } ∧ TP t' ∧ Fr g L' h' m' ∧ News g L' h' (new ++ t') ∧ W v new
theorem Ret.intro {TP : Led → Prop} {g : Heap} {L' : Addr} {s₀ : Shared} {W : Value → Led → Prop} {v : Value} {h' : Heap} {tk : Nat} {m' : Str → Option Value} {news t' : Led} (new : Led) (htb : TP t') (F : Fr g L' h' m') (N : News g L' h' news) (hs : ∀ p ∈ new ++ t', p ∈ news) (w : W v new) :
    Ret TP g L' s₀ W v { s₀ with heap := h', toks := tk } := ⟨h', tk, m', new, t', rfl, htb, F, newsSub N hs, w⟩
def GotBack (TP : Led → Prop) (h₀ : Heap) (L : Addr) (m : Str → Option Value) (own : Led) (s : Shared) (W : Value → Led → Prop) (Q : Value → Shared → Prop) : Prop :=
  ∀ v new t' h' tk', TP t' → W v new → Fr h₀ L h' m → News h₀ L h' (new ++ (own ++ t')) → (∀ p ∈ own, ∀ q ∈ new, p.1 ≠ q.1) → Dis own t' → Q v { s with heap := h', toks := tk' }
abbrev NoT : Led → Prop := fun t => t = []

section
variable {TP : Led → Prop} {prog : Program} {w : World} {A A₀ : Around} {s : Shared} {K : Frag} {L : Addr} {h₀ base : Heap} {m mg mb : Str → Option Value} {own t : Led} {p : Program} {loose : List Str} {mean : ExcName → Option Value}
  {env : Env} {outer : List Env} {Q E : Value → Shared → Prop} {W : Value → Led → Prop} {name qual : Str} {params : Arguments} {body : List Stmt} {scope : Scope} {cl : List (Str × Addr)} {dV kV doc pm cdv ct oc : Value} {an od : Option Addr} {osl : Array (Option Value)} {fo : Obj} {f : Addr} {args : List Value} {binds : List (Str × Value)}
theorem leaveM {g : Heap} {L' : Addr} {v : Value} {s' : Shared} (N : News h₀ L s.heap (own ++ t)) (FG : Fr h₀ L g m) (st : h₀.StaysIn g) (hk : ∀ b o, s.heap.get? b = some o → (∀ q ∈ t, q.1 ≠ b) → g.get? b = some o) (hown : Dis own t)
    (hret : GotBack TP h₀ L m own s W Q) (R : Ret TP g L' s W v s') : Q v s' := by
  obtain ⟨h', tk, m', new, t', rfl, htb', F', N', hw⟩ := R
  have keep : ∀ q ∈ own, g.get? q.1 = some q.2 := fun q hq => hk _ _ (N q (List.mem_append_left _ hq)).1 (hown q hq)
  have hLg : ∃ o, g.get? L = some o := let ⟨o, _, _, e, _⟩ := FG.ns; ⟨o, e⟩
  refine hret v new t' h' tk htb' hw (FG.keeps F'.keep) ?_ ?_ ?_
  · intro q hq
    have aux : ∀ q ∈ new ++ t', h'.get? q.1 = some q.2 ∧ q.1 ≠ L ∧ h₀.get? q.1 = none := fun q hq => by
      refine ⟨(N' q hq).1, fun e => ?_, ?_⟩
      · obtain ⟨o, ho⟩ := hLg
        have := (N' q hq).2.2
        rw [e, ho] at this; cases this
      · cases z : h₀.get? q.1 with
        | none => rfl
        | some o => have := (N' q hq).2.2; rw [st _ _ z] at this; cases this
    rcases List.mem_append.mp hq with h | h
    · exact aux q (List.mem_append_left _ h)
    rcases List.mem_append.mp h with h | h
    · exact ⟨F'.keep _ _ (keep q h), (N q (List.mem_append_left _ h)).2⟩
    · exact aux q (List.mem_append_right _ h)
  · intro q hq r hr e
    have := (N' r (List.mem_append_left _ hr)).2.2
    rw [← e, keep q hq] at this; cases this
  · intro q hq r hr e
    have := (N' r (List.mem_append_right _ hr)).2.2
    rw [e, keep q hq] at this; cases this

theorem enterP (B : Below A₀ base outer h₀) (F : Fr h₀ L s.heap m) (X₀ : K.In h₀) (T : Top p loose mean mg mb h₀) (N : News h₀ L s.heap (own ++ t)) (hown : Dis own t)
    (hA : A.frames = some (env :: outer)) (hf : env.frame = some L) (hke : env.scope.kind = .function)
    (ho : K.lookup f = some fo) (hd : fo.data = .func (fnX name qual params body scope cl dV kV doc pm an cdv ct)) (hcd : codeIn K cdv qual = true) (hroom : A.depth < recursionLimit)
    (hbind : BindsTo s (fnX name qual params body scope cl dV kV doc pm an cdv ct) ⟨args, []⟩ binds) (hloc : ∀ y ∈ binds, scope.names.lookup y.1 = some .local)
    (hret : GotBack TP h₀ L m own s W Q)
    (h : ∀ g L' h₁, (∀ b o, s.heap.get? b = some o → (∀ q ∈ t, q.1 ≠ b) → g.get? b = some o) → Fr g L' h₁ (fun y => binds.reverse.lookup y) → News g L' h₁ t → Below A base (env :: outer) g → K.In g → Top p loose mean mg mb g → (∀ q ∈ t, q.1 < L') →
      wpAny (model prog w) (A.deeper (envX qual scope L' f cdv cl)) (execs body (envX qual scope L' f cdv cl)) (fun fl s' => Ret TP g L' s W (match fl with | .ret v => v | _ => .none) s') (fun _ _ => False) { s with heap := h₁, toks := s.toks + binds.length })
    (hcell : ∀ x ∈ scope.names, x.2 ≠ .cell) (hco : scope.isCoroutine = false) (hgen : scope.isGenerator = false) (hk : scope.kind = .function) :
    wpAny (model prog w) A (call (.ref f) args) Q E s := by
  have Nt : News h₀ L s.heap t := newsSub N fun q hq => List.mem_append_right _ hq
  obtain ⟨FG, BG, st, _⟩ := groundX (R := fun _ _ => True) B F Nt hA hf hke
  have hkg : ∀ b o, s.heap.get? b = some o → (∀ q ∈ t, q.1 ≠ b) → (hideAll s.heap (t.map (·.1))).get? b = some o := fun b o e n => hideAll_get _ e fun hm => by
    obtain ⟨q, hq, e'⟩ := List.mem_map.mp hm
    exact n q hq e'
  refine wpAny_call ?_
  refine codeAny_call_def (fd := fnX name qual params body scope cl dV kV doc pm an cdv ct) (body := body) (binds := binds) hroom ((X₀.keeps F.keep) _ _ ho) hd (T.nolimit.keeps F.keep) (codeRec_of (X₀.keeps F.keep) hcd) rfl hbind hcell hloc (fun h₁ hns hk₁ => ?_) hco hgen hk
  refine wpAny_mono (h _ s.heap.objs.size h₁ hkg ⟨hns, fun b o e => hk₁ b o (of_hideAll _ e), Nat.le_of_eq (hideAll_size _ _)⟩
    (fun q hq => ⟨hk₁ _ _ (Nt q hq).1, Nat.ne_of_lt (Heap.lt_size (Nt q hq).1), hideAll_none _ (List.mem_map_of_mem hq)⟩) BG (X₀.keeps st) (T.keeps st) (fun q hq => Heap.lt_size (Nt q hq).1)) (fun fl s' hl => ?_) fun _ _ y => y.elim
  exact leaveM N FG st hkg hown hret hl

theorem enterC (B : Below A₀ base outer h₀) (F : Fr h₀ L s.heap m) (X₀ : K.In h₀) (T : Top p loose mean mg mb h₀) (N : News h₀ L s.heap (own ++ t)) (hown : Dis own t)
    (hA : A.frames = some (env :: outer)) (hf : env.frame = some L) (hke : env.scope.kind = .function)
    (ho : K.lookup f = some fo) (hd : fo.data = .func (fnX name qual params body scope [] dV kV doc pm an cdv ct)) (hcd : codeIn K cdv qual = true) (hroom : A.depth < recursionLimit)
    (hbind : BindsTo s (fnX name qual params body scope [] dV kV doc pm an cdv ct) ⟨args, []⟩ binds)
    (hkind : (binds.all fun y => scope.names.lookup y.1 == some .local || scope.names.lookup y.1 == some .cell) = true) (hnd : ((cellsFrom 0 scope.names []).map (·.1)).Nodup)
    (hret : GotBack TP h₀ L m own s W Q)
    (h : ∀ g L' h₁ tk cells, (∀ b o, s.heap.get? b = some o → (∀ q ∈ t, q.1 ≠ b) → g.get? b = some o) → Fr g L' h₁ (bindL (envOfC qual scope L' f cdv).kindOf binds fun _ => none) → News g L' h₁ (cells ++ t) →
      CellsAre (bindC (envOfC qual scope L' f cdv).kindOf binds fun _ => none) (cellsFrom (L' + 1) scope.names []) cells → Below A base (env :: outer) g → K.In g → Top p loose mean mg mb g → (∀ q ∈ t, q.1 < L') →
      wpAny (model prog w) (A.deeper (envOfC qual scope L' f cdv)) (execs body (envOfC qual scope L' f cdv)) (fun fl s' => Ret TP g L' s W (match fl with | .ret v => v | _ => .none) s') (fun _ _ => False) { s with heap := h₁, toks := tk })
    (hco : scope.isCoroutine = false) (hgen : scope.isGenerator = false) (hk : scope.kind = .function) :
    wpAny (model prog w) A (call (.ref f) args) Q E s := by
  have Nt : News h₀ L s.heap t := newsSub N fun q hq => List.mem_append_right _ hq
  obtain ⟨FG, BG, st, _⟩ := groundX (R := fun _ _ => True) B F Nt hA hf hke
  have hkg : ∀ b o, s.heap.get? b = some o → (∀ q ∈ t, q.1 ≠ b) → (hideAll s.heap (t.map (·.1))).get? b = some o := fun b o e n => hideAll_get _ e fun hm => by
    obtain ⟨q, hq, e'⟩ := List.mem_map.mp hm
    exact n q hq e'
  refine wpAny_call ?_
  refine codeAny_call_function hroom ((X₀.keeps F.keep) _ _ ho) hd hco hgen rfl (codeRec_of (X₀.keeps F.keep) hcd) (hbind _ _ _ _ ?_)
  refine wpAny_newFunctionEnv_cells hk (kindsX hkind _) fun env' he s' x => ?_
  subst he
  refine ⟨(T.nolimit.keeps F.keep).keeps x.toInCall.keep, codeAny_func ?_⟩
  obtain ⟨h₁, tk, rfl, _⟩ := x.done
  have hk₁ := x.toInCall.keep
  obtain ⟨cells, NC, Y⟩ := Cl.news (h₀ := s.heap) (Nat.le_refl _) fun n c hm => ⟨x.cell n c (lookup_of_mem_nodup (cellsFrom_names scope.names 0 (s.heap.objs.size + 1) [] [] rfl ▸ hnd) hm), x.above n c hm⟩
  refine wpAny_mono (h _ s.heap.objs.size h₁ tk cells hkg ⟨x.toInCall.ns, fun b o e => hk₁ b o (of_hideAll _ e), Nat.le_of_eq (hideAll_size _ _)⟩ (fun q hq => ?_) Y BG (X₀.keeps st) (T.keeps st) (fun q hq => Heap.lt_size (Nt q hq).1)) (fun fl s' hl => ?_) fun _ _ y => y.elim
  · rcases List.mem_append.mp hq with hq | hq
    · refine ⟨(NC q hq).1, (NC q hq).2.1, ?_⟩
      cases z : (hideAll s.heap (t.map (·.1))).get? q.1 with
      | none => rfl
      | some o => have := of_hideAll _ z; rw [(NC q hq).2.2] at this; cases this
    · exact ⟨hk₁ _ _ (Nt q hq).1, Nat.ne_of_lt (Heap.lt_size (Nt q hq).1), hideAll_none _ (List.mem_map_of_mem hq)⟩
  · exact leaveM N FG st hkg hown hret hl
end

theorem listIn {t : Led} {h₀ h g : Heap} {L l : Addr} {vs : Array Value} (htb : TB t) (N : News h₀ L h t) (hk : ∀ b o, h.get? b = some o → (∀ q ∈ t, q.1 ≠ b) → g.get? b = some o) (hl : h.IsList l vs) : g.IsList l vs := by
  obtain ⟨o, ho, hc, n, hd⟩ := hl
  exact ⟨o, hk _ _ ho (htb.offAt N ho fun _ e => by rw [hd] at e; cases e), hc, n, hd⟩
theorem listIn0 {h g : Heap} {l : Addr} {vs : Array Value} (hk : ∀ b o, h.get? b = some o → (∀ q ∈ ([] : Led), q.1 ≠ b) → g.get? b = some o) (hl : h.IsList l vs) : g.IsList l vs := by
  obtain ⟨o, ho, hc, n, hd⟩ := hl
  exact ⟨o, hk _ _ ho (fun _ h => nomatch h), hc, n, hd⟩

def digVal (n : Nat) : List Int → Int
  | [] => 0
  | d :: r => d + 2 ^ n * digVal n r
theorem digVal_append (n : Nat) : ∀ (xs ys : List Int), digVal n (xs ++ ys) = digVal n xs + 2 ^ (n * xs.length) * digVal n ys
  | [], ys => by simp [digVal]
  | x :: r, ys => by
    simp only [List.cons_append, digVal, digVal_append n r ys, List.length_cons]
    rw [Nat.mul_succ, Int.pow_add, Int.mul_add, Int.add_assoc, Int.mul_comm (2 ^ (n * r.length)) (2 ^ n), Int.mul_assoc]
def seg (ds : List Int) (l r : Nat) : List Int := (ds.drop l).take (r - l)
theorem seg_length {ds : List Int} {l r : Nat} (h : r ≤ ds.length) : (seg ds l r).length = r - l := by simp [seg]; lia
theorem seg_split (ds : List Int) {l k r : Nat} (h1 : l ≤ k) (h2 : k ≤ r) : seg ds l r = seg ds l k ++ seg ds k r := by
  unfold seg
  have e : r - l = (k - l) + (r - k) := by lia
  rw [e, List.take_add, List.drop_drop]
  congr 3
  lia
theorem seg_one (ds : List Int) {l : Nat} (h : l < ds.length) : seg ds l (l + 1) = [ds.getD l 0] := by
  unfold seg
  rw [List.drop_eq_getElem_cons h]
  have e : l + 1 - l = 1 := by lia
  rw [e, List.take_succ_cons, List.take_zero, List.getD_eq_getElem?_getD, List.getElem?_eq_getElem h]
  rfl
theorem seg_all (ds : List Int) : seg ds 0 ds.length = ds := by simp [seg]
theorem mem_seg {ds : List Int} {l r : Nat} {x : Int} (h : x ∈ seg ds l r) : x ∈ ds := List.mem_of_mem_drop (List.mem_of_mem_take h)
theorem digVal_bound (n : Nat) : ∀ (ds : List Int), (∀ x ∈ ds, 0 ≤ x ∧ x < 2 ^ n) → 0 ≤ digVal n ds ∧ digVal n ds < 2 ^ (n * ds.length)
  | [], _ => by simp [digVal]
  | d :: r, h => by
    have h1 := h d (.head _)
    have h2 := digVal_bound n r fun x hx => h x (.tail _ hx)
    have hp : (0 : Int) < 2 ^ n := Int.pow_pos (by decide)
    refine ⟨?_, ?_⟩
    · have := Int.mul_nonneg (Int.le_of_lt hp) h2.1
      show 0 ≤ d + 2 ^ n * digVal n r
      lia
    · show d + 2 ^ n * digVal n r < 2 ^ (n * (r.length + 1))
      have h3 : (2 : Int) ^ (n * (r.length + 1)) = 2 ^ n * 2 ^ (n * r.length) := by rw [Nat.mul_succ, Int.pow_add, Int.mul_comm]
      have h4 : 2 ^ n * (digVal n r + 1) ≤ (2 : Int) ^ n * 2 ^ (n * r.length) := Int.mul_le_mul_of_nonneg_left (by lia) (Int.le_of_lt hp)
      rw [Int.mul_add, Int.mul_one] at h4
      lia
theorem mid_facts (i j : Int) : 2 * (i + j).fdiv (2 ^ (1 : Int).toNat) ≤ i + j ∧ i + j < 2 * (i + j).fdiv (2 ^ (1 : Int).toNat) + 2 := by
  have e : (2 : Int) ^ (1 : Int).toNat = 2 := rfl
  rw [e, Int.fdiv_eq_ediv_of_nonneg _ (by decide)]
  lia
theorem bits_le {a : Int} {b : Nat} (h0 : 0 ≤ a) (h : a < 2 ^ b) : Builtin.Int.intBits a ≤ b := by
  unfold Builtin.Int.intBits
  by_cases e : a = 0
  · simp [e]
  · rw [if_neg (by simpa using e)]
    have hn : a.natAbs ≠ 0 := by lia
    have : a.natAbs < 2 ^ b := by
      have h1 : ((a.natAbs : Nat) : Int) < ((2 ^ b : Nat) : Int) := by
        rw [Int.natAbs_of_nonneg h0]
        simpa using h
      exact Int.ofNat_lt.mp h1
    have := (Nat.log2_lt hn).mpr this
    lia
theorem seg_bits {ds : List Int} {nn l r : Nat} {n : Int} (hds : ∀ x ∈ ds, 0 ≤ x ∧ x < 2 ^ nn) (hn : nn ≤ 64) (hl : ds.length ≤ 64) (h : n ≤ 4096) : (Builtin.Int.intBits (digVal nn (seg ds l r)) : Int) + n ≤ 2 ^ 27 := by
  have hb := digVal_bound nn (seg ds l r) fun x hx => hds x (mem_seg hx)
  have h2 : (seg ds l r).length ≤ 64 := by
    have : (seg ds l r).length ≤ (ds.drop l).length := by unfold seg; rw [List.length_take]; lia
    rw [List.length_drop] at this
    lia
  have h3 : nn * (seg ds l r).length ≤ 64 * 64 := Nat.mul_le_mul hn h2
  have h1 := bits_le hb.1 hb.2
  lia
theorem seg_join {ds : List Int} {nn : Nat} {i x j : Int} (h0 : 0 ≤ i) (h1 : i ≤ x) (h2 : x ≤ j) (h3 : j ≤ (ds.length : Int)) :
    digVal nn (seg ds x.toNat j.toNat) * 2 ^ ((x - i) * (nn : Int)).toNat + digVal nn (seg ds i.toNat x.toNat) = digVal nn (seg ds i.toNat j.toNat) := by
  have e1 : i.toNat ≤ x.toNat := by lia
  have e2 : x.toNat ≤ j.toNat := by lia
  rw [seg_split ds e1 e2, digVal_append, seg_length (by lia)]
  have e3 : ((x - i) * (nn : Int)).toNat = nn * (x.toNat - i.toNat) := by
    have : (x - i) * (nn : Int) = ((nn * (x.toNat - i.toNat) : Nat) : Int) := by
      rw [Int.natCast_mul, Int.mul_comm]
      congr 1
      lia
    rw [this, Int.toNat_natCast]
  rw [e3, Int.mul_comm (2 ^ _), Int.add_comm]
theorem seg_single {ds : List Int} {nn : Nat} {i j : Int} (h0 : 0 ≤ i) (h1 : i + 1 = j) (h3 : j ≤ (ds.length : Int)) : ds.getD i.toNat 0 = digVal nn (seg ds i.toNat j.toNat) := by
  have e : j.toNat = i.toNat + 1 := by lia
  rw [e, seg_one ds (by lia)]
  simp [digVal]
theorem mul_small {x n : Int} (h0 : 0 ≤ x) (h1 : x ≤ 64) (h2 : 0 ≤ n) (h3 : n ≤ 64) : 0 ≤ x * n ∧ x * n ≤ 4096 := by
  refine ⟨Int.mul_nonneg h0 h2, ?_⟩
  have : x * n ≤ 64 * 64 := Int.mul_le_mul h1 h3 h2 (by decide)
  lia
def digs (n : Nat) : Nat → Int → List Int
  | 0, _ => []
  | k + 1, x => x % 2 ^ n :: digs n k (x / 2 ^ n)
theorem digs_length (n : Nat) : ∀ (k : Nat) (x : Int), (digs n k x).length = k
  | 0, _ => rfl
  | k + 1, x => by simp [digs, digs_length n k]
theorem pow_pos2 (n : Nat) : (0 : Int) < 2 ^ n := Int.pow_pos (by decide)
theorem digs_add (n k : Nat) : ∀ (j : Nat) (x : Int), digs n (j + k) x = digs n j (x % 2 ^ (n * j)) ++ digs n k (x / 2 ^ (n * j))
  | 0, x => by simp [digs]
  | j + 1, x => by
    have e : j + 1 + k = (j + k) + 1 := by lia
    rw [e]
    show x % 2 ^ n :: digs n (j + k) (x / 2 ^ n) = (x % 2 ^ (n * (j + 1))) % 2 ^ n :: digs n j (x % 2 ^ (n * (j + 1)) / 2 ^ n) ++ _
    rw [digs_add n k j (x / 2 ^ n), List.cons_append]
    have hp : (2 : Int) ^ (n * (j + 1)) = 2 ^ n * 2 ^ (n * j) := by rw [Nat.mul_succ, Int.pow_add, Int.mul_comm]
    have e1 : (x % 2 ^ (n * (j + 1))) % 2 ^ n = x % 2 ^ n := by rw [hp, Int.emod_emod_of_dvd _ (Int.dvd_mul_right _ _)]
    have e2 : x % 2 ^ (n * (j + 1)) / 2 ^ n = x / 2 ^ n % 2 ^ (n * j) := by
      rw [hp, Int.emod_def x, Int.emod_def (x / 2 ^ n), Int.ediv_ediv_of_nonneg (Int.le_of_lt (pow_pos2 n))]
      rw [Int.mul_assoc, Int.sub_eq_add_neg, ← Int.mul_neg, Int.add_mul_ediv_left _ _ (Int.ne_of_gt (pow_pos2 n))]
      rfl
    have e3 : x / 2 ^ n / 2 ^ (n * j) = x / 2 ^ (n * (j + 1)) := by rw [hp, Int.ediv_ediv_of_nonneg (Int.le_of_lt (pow_pos2 n))]
    rw [e1, e2, e3]
theorem digs_one {n : Nat} {x : Int} (h0 : 0 ≤ x) (h1 : x < 2 ^ n) : digs n 1 x = [x] := by
  simp [digs, Int.emod_eq_of_lt h0 h1]
theorem digVal_digs (n : Nat) : ∀ (k : Nat) (x : Int), 0 ≤ x → x < 2 ^ (n * k) → digVal n (digs n k x) = x
  | 0, x, h0, h1 => by
    simp at h1
    show (0 : Int) = x
    lia
  | k + 1, x, h0, h1 => by
    have hp : (2 : Int) ^ (n * (k + 1)) = 2 ^ n * 2 ^ (n * k) := by rw [Nat.mul_succ, Int.pow_add, Int.mul_comm]
    have h2 : x / 2 ^ n < 2 ^ (n * k) := by
      rw [hp] at h1
      exact Int.ediv_lt_of_lt_mul (pow_pos2 n) (by rw [Int.mul_comm]; exact h1)
    show x % 2 ^ n + 2 ^ n * digVal n (digs n k (x / 2 ^ n)) = x
    rw [digVal_digs n k _ (Int.ediv_nonneg h0 (Int.le_of_lt (pow_pos2 n))) h2]
    exact Int.emod_add_mul_ediv x (2 ^ n)
theorem digs_range (n : Nat) : ∀ (k : Nat) (x : Int), ∀ y ∈ digs n k x, 0 ≤ y ∧ y < 2 ^ n
  | 0, _, y, h => nomatch h
  | k + 1, x, y, h => by
    rcases List.mem_cons.mp h with rfl | h
    · exact ⟨Int.emod_nonneg _ (Int.ne_of_gt (pow_pos2 n)), Int.emod_lt_of_pos _ (pow_pos2 n)⟩
    · exact digs_range n k _ y h
def putSeg (ds : List Int) (l : Nat) (xs : List Int) : List Int := ds.take l ++ xs ++ ds.drop (l + xs.length)
theorem putSeg_length {ds xs : List Int} {l : Nat} (h : l + xs.length ≤ ds.length) : (putSeg ds l xs).length = ds.length := by
  simp [putSeg]; lia
theorem putSeg_two {ds xs ys : List Int} {l l' : Nat} (h : l + xs.length + ys.length ≤ ds.length) (e : l' = l + xs.length) : putSeg (putSeg ds l xs) l' ys = putSeg ds l (xs ++ ys) := by
  subst e
  have h1 : (ds.take l ++ xs).length = l + xs.length := by simp; lia
  unfold putSeg
  rw [List.take_left' h1, List.drop_append, h1]
  have h2 : (ds.take l ++ xs).drop (l + xs.length + ys.length) = [] := List.drop_of_length_le (by rw [h1]; lia)
  rw [h2, List.nil_append, List.drop_drop, List.length_append]
  have h3 : l + xs.length + (l + xs.length + ys.length - (l + xs.length)) = l + (xs.length + ys.length) := by lia
  rw [h3]
  simp only [List.append_assoc]
theorem set_putSeg {ds : List Int} {l : Nat} {x : Int} (h : l < ds.length) : ds.set l x = putSeg ds l [x] := by
  rw [List.set_eq_take_append_cons_drop, if_pos h]
  simp [putSeg]
theorem and_high (x s : Nat) : x &&& (x >>> s) <<< s = (x >>> s) <<< s := by
  apply Nat.eq_of_testBit_eq
  intro i
  simp only [Nat.testBit_and, Nat.testBit_shiftLeft, Nat.testBit_shiftRight]
  by_cases h : s ≤ i
  · have e : s + (i - s) = i := by lia
    rw [e]; simp [h]
  · simp [h]
theorem xor_low {x : Int} (h0 : 0 ≤ x) (s : Nat) : Builtin.bitXor x (x.fdiv (2 ^ s) * 2 ^ s) = x % 2 ^ s := by
  obtain ⟨n, rfl⟩ := Int.eq_ofNat_of_zero_le h0
  have hp := pow_pos2 s
  rw [Int.fdiv_eq_ediv_of_nonneg _ (Int.le_of_lt hp)]
  have e1 : ((n : Int) / 2 ^ s * 2 ^ s) = (((n >>> s) <<< s : Nat) : Int) := by
    rw [Nat.shiftLeft_eq, Nat.shiftRight_eq_div_pow]
    simp
  rw [PyProof.Rows.bitXor_and, e1]
  have e2 : Builtin.bitAnd (n : Int) (((n >>> s) <<< s : Nat) : Int) = (((n >>> s) <<< s : Nat) : Int) := by
    have g1 : decide ((0 : Int) ≤ (n : Int)) = true := by simp
    have g2 : decide ((0 : Int) ≤ (((n >>> s) <<< s : Nat) : Int)) = true := decide_eq_true (Int.natCast_nonneg _)
    unfold Builtin.bitAnd
    rw [g1, g2]
    show (((n : Int).toNat &&& (((n >>> s) <<< s : Nat) : Int).toNat : Nat) : Int) = _
    rw [Int.toNat_natCast, Int.toNat_natCast, and_high]
  rw [e2, ← e1, Int.emod_def, Int.mul_comm ((n : Int) / 2 ^ s)]
  lia
/- the step of _int2digits -/
structure StepI (nn : Nat) (i j x X sh up lo : Int) : Prop where
  hX0 : i ≤ X
  hX1 : X ≤ j
  sh0 : 0 ≤ sh
  up0 : 0 ≤ up
  up1 : up < 2 ^ (nn * (j - X).toNat)
  lo0 : 0 ≤ lo
  lo1 : lo < 2 ^ (nn * (X - i).toNat)
  bits : (Builtin.Int.intBits up : Int) + sh ≤ 2 ^ 27
  join : digs nn (X - i).toNat lo ++ digs nn (j - X).toNat up = digs nn (j - i).toNat x
theorem stepI {nn : Nat} {i j x : Int} (hn : nn ≤ 64) (h0 : 0 ≤ i) (h1 : i < j) (h2 : j ≤ 64) (hx : 0 ≤ x) (hx1 : x < 2 ^ (nn * (j - i).toNat)) :
    StepI nn i j x ((i + j).fdiv (2 ^ (1 : Int).toNat)) (((i + j).fdiv (2 ^ (1 : Int).toNat) - i) * (nn : Int)) (x.fdiv (2 ^ (((i + j).fdiv (2 ^ (1 : Int).toNat) - i) * (nn : Int)).toNat))
      (Builtin.bitXor x (x.fdiv (2 ^ (((i + j).fdiv (2 ^ (1 : Int).toNat) - i) * (nn : Int)).toNat) * 2 ^ (((i + j).fdiv (2 ^ (1 : Int).toNat) - i) * (nn : Int)).toNat)) := by
  have hm := mid_facts i j
  generalize (i + j).fdiv (2 ^ (1 : Int).toNat) = X at hm
  have hX0 : i ≤ X := by lia
  have hX1 : X ≤ j := by lia
  have hsm := mul_small (x := X - i) (n := (nn : Int)) (by lia) (by lia) (by lia) (by lia)
  have e3 : ((X - i) * (nn : Int)).toNat = nn * (X - i).toNat := by
    have : (X - i) * (nn : Int) = ((nn * (X - i).toNat : Nat) : Int) := by
      rw [Int.natCast_mul, Int.mul_comm]
      congr 1
      lia
    rw [this, Int.toNat_natCast]
  rw [xor_low hx]
  rw [e3, Int.fdiv_eq_ediv_of_nonneg _ (Int.le_of_lt (pow_pos2 _))]
  have hs : (j - i).toNat = (X - i).toNat + (j - X).toNat := by lia
  have hp : (2 : Int) ^ (nn * (j - i).toNat) = 2 ^ (nn * (X - i).toNat) * 2 ^ (nn * (j - X).toNat) := by rw [hs, Nat.mul_add, Int.pow_add]
  have hu1 : x / 2 ^ (nn * (X - i).toNat) < 2 ^ (nn * (j - X).toNat) := by
    rw [hp] at hx1
    exact Int.ediv_lt_of_lt_mul (pow_pos2 _) (by rw [Int.mul_comm]; exact hx1)
  have hu0 : 0 ≤ x / 2 ^ (nn * (X - i).toNat) := Int.ediv_nonneg hx (Int.le_of_lt (pow_pos2 _))
  refine ⟨hX0, hX1, hsm.1, hu0, hu1, Int.emod_nonneg _ (Int.ne_of_gt (pow_pos2 _)), Int.emod_lt_of_pos _ (pow_pos2 _), ?_, ?_⟩
  · have hb := bits_le hu0 hu1
    have hk : nn * (j - X).toNat ≤ 64 * 64 := Nat.mul_le_mul hn (by lia)
    lia
  · rw [hs, digs_add nn (j - X).toNat (X - i).toNat x]
theorem putSeg_join {ds : List Int} {nn : Nat} {i j x X sh up lo : Int} (S : StepI nn i j x X sh up lo) (h0 : 0 ≤ i) (h1 : i < j) (h2 : j ≤ (ds.length : Int)) :
    putSeg (putSeg ds i.toNat (digs nn (X - i).toNat lo)) X.toNat (digs nn (j - X).toNat up) = putSeg ds i.toNat (digs nn (j - i).toNat x) := by
  have a := S.hX0
  have b := S.hX1
  rw [putSeg_two (by simp only [digs_length]; lia) (by simp only [digs_length]; lia), S.join]
theorem putSeg_single {ds : List Int} {nn : Nat} {i j x : Int} (h0 : 0 ≤ i) (h1 : i + 1 = j) (h2 : j ≤ (ds.length : Int)) (hx : 0 ≤ x) (hx1 : x < 2 ^ (nn * (j - i).toNat)) :
    ds.set i.toNat x = putSeg ds i.toNat (digs nn (j - i).toNat x) := by
  have e : (j - i).toNat = 1 := by lia
  rw [e] at hx1 ⊢
  rw [Nat.mul_one] at hx1
  rw [digs_one hx hx1, set_putSeg (by lia)]
theorem digs_zero (n : Nat) : ∀ k : Nat, digs n k 0 = List.replicate k 0
  | 0 => rfl
  | k + 1 => by simp [digs, digs_zero n k, List.replicate_succ]
theorem putSeg_whole {n k : Nat} {x : Int} : putSeg (List.replicate k 0) (0 : Int).toNat (digs n ((k : Int) - 0).toNat x) = digs n k x := by
  have e : ((k : Int) - 0).toNat = k := by lia
  rw [e]
  simp [putSeg, digs_length]
theorem few_digs {n k : Nat} {x : Int} (hx : 0 ≤ x) (h : x < 2 ^ (n * k)) (h0 : x ≠ 0) : 1 ≤ k := by
  rcases k with _ | k
  · simp at h; lia
  · lia
open PyProof in
theorem noPy {x b : Int} (h0 : 0 < b) (h : b < 2 ^ 64) : Builtin.divisionGoesByPylong x b = false := by
  refine noPylong_of_log2 ?_
  have hn : b.natAbs ≠ 0 := by lia
  have : b.natAbs < 2 ^ 64 := by lia
  have := (Nat.log2_lt hn).mpr this
  lia
/- long division, digit by digit -/
structure DivInv (nn : Nat) (b V r : Int) (qs : List Int) (len : Nat) : Prop where
  v0 : 0 ≤ V
  hr : r = V % b
  hq : digVal nn qs.reverse = V / b
  rng : ∀ q ∈ qs, 0 ≤ q ∧ q < 2 ^ nn
  hl : qs.length = len
theorem DivInv.start (nn : Nat) (b : Int) : DivInv nn b 0 0 [] 0 := ⟨Int.le_refl _, by simp, by simp [digVal], (fun _ h => nomatch h), rfl⟩
theorem DivInv.rbound {nn : Nat} {b V r : Int} {qs : List Int} {len : Nat} (I : DivInv nn b V r qs len) (hb : 0 < b) : 0 ≤ r ∧ r < b := by
  rw [I.hr]; exact ⟨Int.emod_nonneg _ (Int.ne_of_gt hb), Int.emod_lt_of_pos _ hb⟩
theorem DivInv.cur {nn : Nat} {b V r d : Int} {qs : List Int} {len : Nat} (I : DivInv nn b V r qs len) (hb : 0 < b) (hd : 0 ≤ d ∧ d < 2 ^ nn) : 0 ≤ r * 2 ^ nn + d ∧ r * 2 ^ nn + d < b * 2 ^ nn := by
  have h := I.rbound hb
  have hp := pow_pos2 nn
  have h1 := Int.mul_nonneg h.1 (Int.le_of_lt hp)
  have h2 : (r + 1) * 2 ^ nn ≤ b * 2 ^ nn := Int.mul_le_mul_of_nonneg_right (by lia) (Int.le_of_lt hp)
  rw [Int.add_mul, Int.one_mul] at h2
  lia
theorem DivInv.step {nn : Nat} {b V r d : Int} {qs : List Int} {len : Nat} (I : DivInv nn b V r qs len) (hb : 0 < b) (hd : 0 ≤ d ∧ d < 2 ^ nn) :
    DivInv nn b (V * 2 ^ nn + d) ((r * 2 ^ nn + d).fmod b) (qs ++ [(r * 2 ^ nn + d).fdiv b]) (len + 1) := by
  have hc := I.cur hb hd
  have hp := pow_pos2 nn
  rw [Int.fmod_eq_emod_of_nonneg _ (Int.le_of_lt hb), Int.fdiv_eq_ediv_of_nonneg _ (Int.le_of_lt hb)]
  have hV : V * 2 ^ nn + d = (r * 2 ^ nn + d) + b * (V / b * 2 ^ nn) := by
    have e : V = b * (V / b) + V % b := (Int.mul_ediv_add_emod V b).symm
    rw [← I.hr] at e
    calc V * 2 ^ nn + d = (b * (V / b) + r) * 2 ^ nn + d := by rw [← e]
      _ = _ := by rw [Int.add_mul, Int.mul_assoc]; lia
  refine ⟨?_, ?_, ?_, ?_, ?_⟩
  · have := Int.mul_nonneg I.v0 (Int.le_of_lt hp); lia
  · rw [hV, Int.add_mul_emod_self_left]
  · rw [List.reverse_append]
    show digVal nn (_ :: qs.reverse) = _
    rw [digVal, I.hq, hV, Int.add_mul_ediv_left _ _ (Int.ne_of_gt hb), Int.mul_comm (2 ^ nn)]
  · intro q hq
    rcases List.mem_append.mp hq with h | h
    · exact I.rng q h
    · rw [List.mem_singleton.mp h]
      exact ⟨Int.ediv_nonneg hc.1 (Int.le_of_lt hb), Int.ediv_lt_of_lt_mul hb (Int.mul_comm b (2 ^ nn) ▸ hc.2)⟩
  · rw [List.length_append, I.hl]; rfl
def big (nn : Nat) (V : Int) (l : List Int) : Int := l.foldl (fun v d => v * 2 ^ nn + d) V
theorem big_reverse (nn : Nat) : ∀ ds : List Int, big nn 0 ds.reverse = digVal nn ds
  | [] => rfl
  | d :: r => by
    have ih := big_reverse nn r
    unfold big at ih ⊢
    rw [List.reverse_cons, List.foldl_append, ih]
    show digVal nn r * 2 ^ nn + d = d + 2 ^ nn * digVal nn r
    rw [Int.mul_comm]; lia
theorem pow_mono2 {a b : Nat} (h : a ≤ b) : (2 : Int) ^ a ≤ 2 ^ b := by
  have := Nat.pow_le_pow_right (n := 2) (by decide) h
  exact_mod_cast this
theorem lt_bits {x : Int} (h : 0 ≤ x) : x < 2 ^ Builtin.Int.intBits x := by
  unfold Builtin.Int.intBits
  by_cases e : x = 0
  · simp [e]
  · rw [if_neg (by simpa using e)]
    have h1 : x.natAbs < 2 ^ (x.natAbs.log2 + 1) := Nat.lt_log2_self
    have h2 : ((x.natAbs : Nat) : Int) < ((2 ^ (x.natAbs.log2 + 1) : Nat) : Int) := Int.ofNat_lt.mpr h1
    rw [Int.natAbs_of_nonneg h] at h2
    simpa using h2
theorem bits_pos {x : Int} (h : 0 < x) : 1 ≤ Builtin.Int.intBits x := by
  unfold Builtin.Int.intBits
  rw [if_neg (by simp; lia)]
  lia
theorem cur_bits {nn : Nat} {b y : Int} (hy : 0 ≤ y) (h : y < b * 2 ^ nn) (hb : 0 < b) (hnn : nn = Builtin.Int.intBits b) (hn : nn ≤ 64) : (Builtin.Int.intBits y : Int) - (nn : Int) ≤ 4000 := by
  have h1 := lt_bits (Int.le_of_lt hb)
  rw [← hnn] at h1
  have h2 : b * 2 ^ nn ≤ 2 ^ nn * 2 ^ nn := Int.mul_le_mul_of_nonneg_right (Int.le_of_lt h1) (Int.le_of_lt (pow_pos2 nn))
  rw [← Int.pow_add] at h2
  have := bits_le hy (Int.lt_of_lt_of_le h h2)
  lia
theorem digs_count {x : Int} {nn : Nat} (hx : 0 ≤ x) (hn1 : 1 ≤ nn) (hb : Builtin.Int.intBits x ≤ 62 * nn) :
    ∃ k : Nat, k ≤ 63 ∧ ((Builtin.Int.intBits x : Int) + (nn : Int) - 1).fdiv (nn : Int) = (k : Int) ∧ x < 2 ^ (nn * k) := by
  have hnn : (0 : Int) < (nn : Int) := by lia
  rw [Int.fdiv_eq_ediv_of_nonneg _ (Int.le_of_lt hnn)]
  have h0 : 0 ≤ ((Builtin.Int.intBits x : Int) + (nn : Int) - 1) / (nn : Int) := Int.ediv_nonneg (by lia) (Int.le_of_lt hnn)
  refine ⟨(((Builtin.Int.intBits x : Int) + (nn : Int) - 1) / (nn : Int)).toNat, ?_, (Int.toNat_of_nonneg h0).symm, ?_⟩
  · have : ((Builtin.Int.intBits x : Int) + (nn : Int) - 1) / (nn : Int) < 64 := Int.ediv_lt_of_lt_mul hnn (by lia)
    lia
  · refine Int.lt_of_lt_of_le (lt_bits hx) ?_
    have h1 : (Builtin.Int.intBits x : Int) + (nn : Int) - 1 < (((Builtin.Int.intBits x : Int) + (nn : Int) - 1) / (nn : Int) + 1) * (nn : Int) := Int.lt_ediv_add_one_mul_self _ hnn
    have h2 : Builtin.Int.intBits x ≤ nn * (((Builtin.Int.intBits x : Int) + (nn : Int) - 1) / (nn : Int)).toNat := by
      have h3 : ((nn * (((Builtin.Int.intBits x : Int) + (nn : Int) - 1) / (nn : Int)).toNat : Nat) : Int) = (nn : Int) * (((Builtin.Int.intBits x : Int) + (nn : Int) - 1) / (nn : Int)) := by
        rw [Int.natCast_mul, Int.toNat_of_nonneg h0]
      rw [Int.add_mul, Int.one_mul, Int.mul_comm] at h1
      lia
    exact pow_mono2 h2
theorem ints_rev {vs : List Value} {ns : List Int} (h : IntsAre vs ns) : IntsAre vs.reverse ns.reverse := by
  induction h with
  | nil => exact .nil
  | cons i t _ ih =>
    rw [List.reverse_cons, List.reverse_cons]
    exact ih.append (.cons _ _ .nil)
theorem small_bits {a n : Int} (h0 : 0 ≤ a) (h : a < 2 ^ 64) (hn : n ≤ 4096) : (Builtin.Int.intBits a : Int) + n ≤ 2 ^ 27 := by
  have := bits_le h0 h
  lia
theorem big_cons (nn : Nat) (V d : Int) (ls : List Int) : big nn V (d :: ls) = big nn (V * 2 ^ nn + d) ls := rfl
theorem rev_arr (l : List Value) : l.toArray.toList.reverse = l.reverse := rfl
theorem szl {l : List Value} (h : l.length ≤ 64) : l.toArray.toList.length ≤ sizeLine := by
  show l.length ≤ sizeLine
  rw [sizeLine_eq]; lia
theorem digs_countN {x : Int} {nn n : Nat} (hx : 0 ≤ x) (hn1 : 1 ≤ nn) (hb : x < 2 ^ (nn * n)) (hn : n ≤ 62) :
    ∃ k : Nat, k ≤ n ∧ k ≤ 63 ∧ ((Builtin.Int.intBits x : Int) + (nn : Int) - 1).fdiv (nn : Int) = (k : Int) ∧ x < 2 ^ (nn * k) := by
  have hbits := bits_le hx hb
  have hb2 : Builtin.Int.intBits x ≤ 62 * nn := by
    have := Nat.mul_le_mul_left nn hn
    rw [Nat.mul_comm nn 62] at this
    lia
  obtain ⟨k, h1, h2, h3⟩ := digs_count hx hn1 hb2
  refine ⟨k, ?_, h1, h2, h3⟩
  have hnn : (0 : Int) < (nn : Int) := by lia
  rw [Int.fdiv_eq_ediv_of_nonneg _ (Int.le_of_lt hnn)] at h2
  have h4 : ((Builtin.Int.intBits x : Int) + (nn : Int) - 1) / (nn : Int) < (n : Int) + 1 := by
    refine Int.ediv_lt_of_lt_mul hnn ?_
    have h5 : ((nn * n : Nat) : Int) = (n : Int) * (nn : Int) := by rw [Int.natCast_mul, Int.mul_comm]
    rw [Int.add_mul, Int.one_mul, ← h5]
    lia
  lia
theorem digs_pad {nn k n : Nat} {x : Int} (hx : 0 ≤ x) (h : x < 2 ^ (nn * k)) (hk : k ≤ n) : digs nn k x ++ List.replicate (n - k) 0 = digs nn n x := by
  have e : n = k + (n - k) := by lia
  conv => rhs; rw [e, digs_add nn (n - k) k x]
  rw [Int.emod_eq_of_lt hx h, Int.ediv_eq_zero_of_lt hx h, digs_zero]
theorem pow_bits {W : Nat} {b more : Int} (hb : b = 2 ^ W + more) (hm : more = 1 ∨ more = -1) (h6 : 6 ≤ W) (h55 : W ≤ 55) : 0 < b ∧ b < 2 ^ 64 ∧ W ≤ Builtin.Int.intBits b := by
  have h1 : (2 : Int) ^ W ≤ 2 ^ 55 := pow_mono2 h55
  have h2 : (2 : Int) ^ 6 ≤ 2 ^ W := pow_mono2 h6
  have h3 : (2 : Int) ^ (W - 1) * 2 = 2 ^ W := by
    have : W = (W - 1) + 1 := by lia
    conv => rhs; rw [this, Int.pow_succ]
  have h4 : (1 : Int) ≤ 2 ^ (W - 1) := pow_pos2 _
  refine ⟨by lia, by lia, ?_⟩
  rcases Nat.lt_or_ge (Builtin.Int.intBits b) W with h | h
  · exfalso
    have h5 := lt_bits (x := b) (by lia)
    have h6 : (2 : Int) ^ Builtin.Int.intBits b ≤ 2 ^ (W - 1) := pow_mono2 (by lia)
    lia
  · exact h
theorem flat_rep (n : Nat) (v : Int) : (List.replicate n [v]).flatten = List.replicate n v := by
  induction n with
  | zero => rfl
  | succ n ih => rw [List.replicate_succ, List.flatten_cons, ih]; rfl
theorem digs_padZ {nn k n : Nat} {x : Int} (hx : 0 ≤ x) (h : x < 2 ^ (nn * k)) (hk : k ≤ n) : digs nn k x ++ (List.replicate ((n : Int) - (k : Int)).toNat [(0 : Int)]).flatten = digs nn n x := by
  rw [flat_rep, show ((n : Int) - (k : Int)).toNat = n - k by lia]
  exact digs_pad hx h hk

theorem offSwap {xs ys : Led} (h : ∀ q ∈ ys, ∀ p ∈ xs, p.1 ≠ q.1) : ∀ p ∈ xs, ∀ q ∈ ys, p.1 ≠ q.1 := fun p hp q hq => h q hq p hp
theorem ofAllLt {d : Addr} : ∀ {l : Led}, AllLt d l → ∀ p ∈ l, p.1 ≠ d
  | [], _, _, h => nomatch h
  | _ :: _, x, p, h => by
    rcases List.mem_cons.mp h with rfl | h
    · exact Nat.ne_of_lt x.1
    · exact ofAllLt x.2 p h
def AllNe (d : Nat) : Led → Prop
  | [] => True
  | p :: r => @Ne Nat p.1 d ∧ AllNe d r
theorem allNe_of {d : Addr} : ∀ {l : Led}, (∀ p ∈ l, p.1 ≠ d) → AllNe d l
  | [], _ => trivial
  | p :: _, h => ⟨h p (.head _), allNe_of fun q hq => h q (.tail _ hq)⟩
def TurnP (h₀ : Heap) (L : Addr) (s₁ : Shared) (its : Led) (rest : (Str → Option Value) → Led → Prop) (Q : Flow → Shared → Prop) (f : Flow) (s₂ : Shared) : Prop := UnrPostW h₀ L s₁ its rest Q f s₂
section
variable {h₀ : Heap} {L : Addr} {s₁ : Shared} {its : Led} {rest : (Str → Option Value) → Led → Prop} {Q : Flow → Shared → Prop} {h' : Heap} {tk : Nat} {m' : Str → Option Value} {all : Led}
theorem TurnP.next (F : Fr h₀ L h' m') (N : News h₀ L h' all) (news' : Led) (hs : ∀ p ∈ its ++ news', p ∈ all) (off : ∀ p ∈ news', ∀ q ∈ its, p.1 ≠ q.1) (r : rest m' news') : TurnP h₀ L s₁ its rest Q .next { s₁ with heap := h', toks := tk } :=
  (⟨h', tk, m', news', rfl, F, newsSub N hs, off, r⟩ : UnrEndW h₀ L s₁ its rest _)
theorem TurnP.cont (F : Fr h₀ L h' m') (N : News h₀ L h' all) (news' : Led) (hs : ∀ p ∈ its ++ news', p ∈ all) (off : ∀ p ∈ news', ∀ q ∈ its, p.1 ≠ q.1) (r : rest m' news') : TurnP h₀ L s₁ its rest Q .cont { s₁ with heap := h', toks := tk } :=
  (⟨h', tk, m', news', rfl, F, newsSub N hs, off, r⟩ : UnrEndW h₀ L s₁ its rest _)
end
theorem allObj_mono : ∀ {ws : List (Addr × String)} {k k' : Led → Prop}, (∀ its, k its → k' its) → AllObj ws k → AllObj ws k'
  | [], _, _, h, x => h _ x
  | _ :: _, _, _, h, x => fun o ho => allObj_mono (fun its hi => h _ hi) (x o ho)
/- what the frame's names hold between the turns -/
def Held (m₀ : Str → Option Value) (stored : List Str) (ps : List (Str × Value)) (m : Str → Option Value) : Prop :=
  (∀ p ∈ ps, m p.1 = some p.2) ∧ ∀ z, (∀ p ∈ ps, z ≠ p.1) → stored.contains z = false → m z = m₀ z
theorem Held.fr {h₀ h : Heap} {L : Addr} {m₀ m : Str → Option Value} {stored : List Str} {ps : List (Str × Value)} (H : Held m₀ stored ps m) (F : Fr h₀ L h m) : Fr h₀ L h (kstB (fun z => if stored.contains z then m z else m₀ z) ps) := by
  have em : kstB (fun z => if stored.contains z then m z else m₀ z) ps = m := by
    funext y
    refine kstB_eq H.1 fun hn => ?_
    show (if stored.contains y = true then m y else m₀ y) = m y
    cases h3 : stored.contains y with
    | true => simp
    | false => simp only [Bool.false_eq_true, if_false]; exact (H.2 y hn h3).symm
  rw [em]; exact F
theorem notIn {stored : List Str} {z : Str} (h : stored.contains z = false) : ∀ x ∈ stored, z ≠ x := fun x hx e => by
  subst e
  rw [List.contains_iff_mem.mpr hx] at h
  cases h
section
variable {prog : Program} {w : World} {A : Around} {E : Value → Shared → Prop} {s : Shared} {env : Env} {h₀ : Heap} {target : Expr} {body : List Stmt} {Q : Flow → Shared → Prop}
theorem rest_ind {ws : List (Addr × String)} {keep : Led} (J : List Itm → (Str → Option Value) → Led → Prop)
    (step : ∀ a r m news, J (a :: r) m news → ∀ v h tk, a.Is v h → Fr h₀ env.locals h m → AllObj ws (fun its => News h₀ env.locals h (its ++ news) →
      wpAny (model prog w) A (assign target env v) (fun _ s₂ => wpAny (model prog w) A (execs body env) (TurnP h₀ env.locals { s with heap := h, toks := tk } its (fun m' n' => SubL keep n' ∧ J r m' n') Q) E s₂) E { s with heap := h, toks := tk }))
    (done : ∀ m news, J [] m news → ∀ h tk, Fr h₀ env.locals h m → News h₀ env.locals h news → Q .next { s with heap := h, toks := tk }) :
    ∀ xs m news, J xs m news → ItemsRest prog w A E h₀ env target body Q s ws keep xs m news
  | [], m, news, h => fun H tk F N => done m news h H tk F N
  | a :: r, m, news, h => fun v H tk hv F => by
    have IH := rest_ind J step done r
    have st := step a r m news h v H tk hv F
    clear step
    revert st
    generalize hk1 : (fun its : Led => News h₀ env.locals H (its ++ news) → wpAny (model prog w) A (assign target env v) (fun _ s₂ => wpAny (model prog w) A (execs body env) (TurnP h₀ env.locals { s with heap := H, toks := tk } its (fun m' n' => SubL keep n' ∧ J r m' n') Q) E s₂) E { s with heap := H, toks := tk }) = k1
    intro st
    refine allObj_mono (fun its hi => ?_) st
    rw [← hk1] at hi
    intro N
    refine wpAny_mono (hi N) (fun _ s₂ h₂ => wpAny_mono h₂ (fun f s₃ p => ?_) fun _ _ e => e) fun _ _ e => e
    have up : ∀ s₃, UnrEndW h₀ env.locals { s with heap := H, toks := tk } its (fun m' n' => SubL keep n' ∧ J r m' n') s₃ → UnrEndW h₀ env.locals { s with heap := H, toks := tk } its (fun m' n' => SubL keep n' ∧ ItemsRest prog w A E h₀ env target body Q s ws keep r m' n') s₃ := by
      rintro s₃ ⟨h', tk', m', news', e, F', N', ho, hk, hJ⟩
      exact ⟨h', tk', m', news', e, F', N', ho, hk, IH m' news' hJ⟩
    cases f with
    | ret v => exact p
    | brk => exact p
    | next => exact up _ p
    | cont => exact up _ p
theorem rest_indM {ws : List (Addr × String)} {keep : Led} {m₀ : Str → Option Value} {xs₀ : List Itm} {news₀ : Led} (J : (Str → Option Value) → List Itm → (Str → Option Value) → Led → Prop)
    (step : ∀ a r m news, J m₀ (a :: r) m news → ∀ v h tk, a.Is v h → Fr h₀ env.locals h m → AllObj ws (fun its => News h₀ env.locals h (its ++ news) →
      wpAny (model prog w) A (assign target env v) (fun _ s₂ => wpAny (model prog w) A (execs body env) (TurnP h₀ env.locals { s with heap := h, toks := tk } its (fun m' n' => SubL keep n' ∧ J m₀ r m' n') Q) E s₂) E { s with heap := h, toks := tk }))
    (done : ∀ m news, J m₀ [] m news → ∀ h tk, Fr h₀ env.locals h m → News h₀ env.locals h news → Q .next { s with heap := h, toks := tk })
    (start : J m₀ xs₀ m₀ news₀) : ItemsRest prog w A E h₀ env target body Q s ws keep xs₀ m₀ news₀ := rest_ind (J m₀) step done _ _ _ start
theorem iter_revTurns {ax I : Addr} {lo : Obj} {vs : List Value} {n : Nat} {m₀ : Str → Option Value} {news : Led} {x : Str} {px : Pos}
    (hh : A.handled = none) (F : Fr h₀ env.locals s.heap m₀) (N : News h₀ env.locals s.heap ((I, revObj ax ((vs.length : Int) - 1)) :: news)) (hoff : ∀ p ∈ news, p.1 ≠ I) (hm : (ax, lo) ∈ news) (hc : lo.cls = .type "list") (hd : lo.data = .seq vs.toArray n)
    (rest : ItemsRest prog w A E h₀ env (.Name x px) body Q s [(I, "list_reverseiterator")] [(ax, lo)] (vs.reverse.map .val) m₀ news) :
    wpAny (model prog w) A (pyIter (.ref I)) (fun it s₂ => TurnsAt prog w A h₀ env (.Name x px) body Q E it s₂) E s := by
  have hIx := N _ (List.mem_cons_self ..)
  have hax := N _ (List.mem_cons_of_mem _ hm)
  have hl : s.heap.IsList ax vs.toArray := ⟨lo, hax.1, hc, n, hd⟩
  have hne : ax ≠ I := hoff _ hm
  have hit : s.heap.IsRevIter I ax ((vs.length : Int) - 1) := ⟨_, hIx.1, rfl, rfl⟩
  refine wpAny_pyIter_revIter hit ?_
  have W := Walks.listRev (prog := prog) (w := w) hh I ax hne vs.toArray
  have hlen : vs.toArray.size = vs.length := by simp
  rw [hlen] at W
  refine ktu_core (tk0 := s.toks) (keep := [(ax, lo)]) (KTurns.ofWalks W.bound fun i v s Q E st q => wpAny_pure q) (by simp) (fun i v h hp => ⟨.val v, ?_, rfl⟩) (fun i h st => ?_) (fun b hb => ?_) (fun b hb => by simpa using hb) (fun b hb => ?_) ?_ (fun p hp hI => ?_) ?_ F (fun p hp => N p (List.mem_cons_of_mem _ hp)) (And.intro hm trivial) rest
  · obtain ⟨hlt, hp⟩ := hp
    have hp' : vs.toArray[vs.length - 1 - i]? = some v := by rw [← hlen]; exact hp
    rw [List.getElem?_map, List.getElem?_reverse hlt]
    simpa using hp'
  · obtain ⟨_, ⟨it, hit, hic, _⟩, _⟩ := st
    exact ⟨[(I, it)], ⟨⟨rfl, hic⟩, trivial⟩, fun p hp => by rw [List.mem_singleton.mp hp]; exact hit⟩
  · have hb' : b = I := by simpa using hb
    rw [hb']
    exact ⟨List.mem_cons_self .., hIx.2.2⟩
  · have hb' : b = I ∨ b = ax := by simpa using hb
    rcases hb' with e | e
    · exact .inl (by simp [e])
    · exact .inr ⟨lo, by simp [e]⟩
  · intro hI
    rcases List.mem_cons.mp hI with e | hI
    · exact hIx.2.1 e.symm
    · exact hax.2.1 (List.mem_singleton.mp hI).symm
  · exact hoff p hp (List.mem_singleton.mp hI)
  · have e : (vs.length : Int) - 1 - ((0 : Nat) : Int) = (vs.length : Int) - 1 := by lia
    rw [e]
    exact ⟨Nat.zero_le _, hit, hl⟩
end
theorem forallApp {P : Addr × Obj → Prop} {a b : Led} (h1 : ∀ p ∈ a, P p) (h2 : ∀ p ∈ b, P p) : ∀ p ∈ a ++ b, P p := fun p hp => by
  rcases List.mem_append.mp hp with h | h
  · exact h1 p h
  · exact h2 p h
theorem allLt_le {d d' : Nat} (h : d ≤ d') : ∀ {l : Led}, AllLt d l → AllLt d' l
  | [], _ => trivial
  | _ :: _, x => ⟨Nat.lt_of_lt_of_le x.1 h, allLt_le h x.2⟩
theorem allLt_left {d : Nat} : ∀ {a b : Led}, AllLt d (a ++ b) → AllLt d a
  | [], _, _ => trivial
  | _ :: _, _, x => ⟨x.1, allLt_left x.2⟩
theorem last_get (l : List Value) (v : Value) : (l ++ [v])[((-1 : Int) + ((l ++ [v]).length : Int)).toNat]? = some v := by
  have e : ((-1 : Int) + ((l ++ [v]).length : Int)).toNat = l.length := by
    rw [List.length_append, List.length_singleton]; lia
  rw [e, List.getElem?_append_right (Nat.le_refl _), Nat.sub_self]; rfl

set_option maxRecDepth 100000
/- the caller's frame -/
structure Cx (w : World) (p : Program) (loose : List Str) (mean : ExcName → Option Value) (mg mb : Str → Option Value) (A₀ : Around) (base : Heap) (outer : List Env) (h₀ h : Heap) (L : Addr) (m : Str → Option Value) (cs : Scope) : Prop where
  B : Below A₀ base outer h₀
  F : Fr h₀ L h m
  X : (Mine.hd.heap_39 w.params).In h₀
  T : Top p loose mean mg mb h₀
  hk : cs.kind = .function
  CA : CodeHd base 46 42
  CB : CodeHd base 39 35

namespace RF
theorem nolen_lr : typeLookup (.type "list_reverseiterator") "__len__" = pure none := by rw [typeLookup_type, builtinLookup_eq_fast]; kernel_rfl
theorem hint_lr : typeLookup (.type "list_reverseiterator") "__length_hint__" = pure (some (.builtin "list_reverseiterator.__length_hint__")) := by rw [typeLookup_type, builtinLookup_eq_fast]; kernel_rfl
end RF
section
variable {prog : Program} {w : World} {A : Around} {E : Value → Shared → Prop} {s : Shared}
theorem wpAny_extend_rev {R : Result → Shared → Prop} (hh : A.handled = none) {I l : Addr} {items : Array Value} (hne : l ≠ I) (hit : s.heap.IsRevIter I l ((items.size : Int) - 1)) (hl : s.heap.IsList l items) (S : Addr) (res : Value) (c₀ : Nat) (hS : s.heap.get? S = some { cls := .type "list", data := .seq #[] c₀ })
    (hSI : S ≠ I) (hSl : S ≠ l)
    (hR : ∀ h' tk acc' c', (∀ b o, b ≠ S → b ≠ I → s.heap.get? b = some o → h'.get? b = some o) → h'.get? S = some { cls := .type "list", dict := none, data := .seq acc' c', slots := #[] } →
      ItemsOf (fun i v => items[items.size - 1 - i]? = some v) acc' items.size → R (.ok (.ret res)) { s with heap := h', toks := tk }) (hn : items.size ≤ sizeLine) :
    wpAny (model prog w) A.in1 (Builtin.List.listExtendWith (.ref S) (.ref I) res)
      (fun fin s' => match fin with | .done f => R (.ok f) s' | .again c' => c'.quiet = true ∧ codeAny (model prog w) A c' R s') (fun e s' => R (.error e) s') s := by
  have W := (Walks.listRev (prog := prog) (w := w) (A := A.in1) hh I l hne items).toS
  have st₀ : 0 ≤ items.size ∧ s.heap.IsRevIter I l ((items.size : Int) - 1 - ((0 : Nat) : Int)) ∧ s.heap.IsList l items := ⟨Nat.zero_le _, by simpa using hit, hl⟩
  have hT : s.TypeIs (.ref I) "list_reverseiterator" := hit.typeIs
  unfold Builtin.List.listExtendWith
  refine wpAny_bind (wpAny_typeOf hT ?_)
  have h1 : Builtin.List.listSameRef (.ref S) (.ref I) = false := by simp [Builtin.List.listSameRef, hSI]
  rw [if_neg (by rw [h1]; decide)]
  refine wpAny_bind (W.self 0 _ _ _ st₀ ?_)
  refine wpAny_bind (wpAny_holding ?_)
  unfold Builtin.List.listLengthHint
  refine wpAny_bind (wpAny_specialOf hT RF.nolen_lr ?_)
  show wpAny _ A.in1 (specialOf (Value.ref I) (Str.ofString "__length_hint__") >>= _) _ _ _
  refine wpAny_bind (wpAny_specialOf hT RF.hint_lr ?_)
  (generalize hid : ("list_reverseiterator.__length_hint__" : String) = id0; (fail_if_success (clear hid id0)); wp_delta; rw [show splitId id0 = some ("list_reverseiterator", "__length_hint__") from by subst hid; decide +kernel]; subst hid)
  refine wpAny_bind (wpAny_isInstance (b := true) hT (by rw [isSubtype_type]; kernel_rfl) ?_)
  refine wpAny_pure ?_
  rw [if_neg (by decide)]
  refine wpAny_pure ⟨plainId_quiet F.plain_extend_loop _, codeAny_extend_loopS W hn S (by simp [hSI, hSl]) _ items.size 0 _ _ _ rfl (Nat.zero_le _) st₀ hS (ItemsOf.nil _) fun s' acc' c' hm hS' hacc => ?_⟩
  rw [Moved.eq_with hm]
  refine hR s'.heap s'.toks acc' c' (fun b ob hb hb2 e => hm.heap b ob (fun hmem => ?_) e) hS' hacc
  rcases List.mem_cons.mp hmem with e' | hmem
  · exact hb e'
  · exact hb2 (List.mem_singleton.mp hmem)

theorem wpAny_list_init_rev {R : Result → Shared → Prop} (hh : A.handled = none) {I l : Addr} {items : Array Value} (hne : l ≠ I) (hit : s.heap.IsRevIter I l ((items.size : Int) - 1)) (hl : s.heap.IsList l items) (S : Addr) (hS : s.heap.get? S = some { cls := .type "list", data := .seq #[] })
    (hSI : S ≠ I) (hSl : S ≠ l)
    (hR : ∀ h' tk acc' c', (∀ b o, b ≠ S → b ≠ I → s.heap.get? b = some o → h'.get? b = some o) → h'.get? S = some { cls := .type "list", dict := none, data := .seq acc' c', slots := #[] } →
      ItemsOf (fun i v => items[items.size - 1 - i]? = some v) acc' items.size → R (.ok (.ret .none)) { s with heap := h', toks := tk }) (hn : items.size ≤ sizeLine) :
    wpAny (model prog w) A.in1 (Builtin.«list.__init__» ⟨[.ref S, .ref I], []⟩)
      (fun fin s' => match fin with | .done f => R (.ok f) s' | .again c' => c'.quiet = true ∧ codeAny (model prog w) A c' R s') (fun e s' => R (.error e) s') s := by
  show wpAny _ _ (do let old ← Builtin.List.listItems (.ref S); Builtin.List.listUpdate (.ref S) (fun _ => #[]); letGo old.toList.reverse; Builtin.List.listExtendWith (.ref S) (.ref I) .none) _ _ s
  refine wpAny_bind ?_
  unfold Builtin.List.listItems
  refine wpAny_bind (wpAny_seqItems hS rfl (wpAny_pure ?_))
  show wpAny _ _ (updateSeq S (fun _ => #[]) >>= fun _ => letGo (#[] : Array Value).toList.reverse >>= fun _ => Builtin.List.listExtendWith (.ref S) (.ref I) .none) _ _ s
  refine wpAny_bind (wpAny_updateSeq hS rfl ?_)
  have hS₂ := Heap.get?_update_self (Obj.mapSeq (fun _ => (#[] : Array Value))) hS rfl
  have oth : ∀ b o, b ≠ S → s.heap.get? b = some o → (s.heap.update S (Obj.mapSeq (fun _ => (#[] : Array Value)))).get? b = some o :=
    fun b o hb e => (Heap.get?_update_other _ _ (Ne.symm hb)).trans e
  refine wpAny_bind (wpAny_letGo ?_)
  obtain ⟨lo, hlo, hlr⟩ := hl
  refine wpAny_extend_rev (s := { s with heap := s.heap.update S (Obj.mapSeq (fun _ => (#[] : Array Value))) }) (hn := hn) hh hne (hit.at (oth _ · (Ne.symm hSI))) ⟨lo, oth _ _ (Ne.symm hSl) hlo, hlr⟩ S .none _ hS₂ hSI hSl fun h' tk acc' c' hk hS' hacc => ?_
  exact hR h' tk acc' c' (fun b o hb hb2 e => hk b o hb hb2 (oth b o hb e)) hS' hacc

theorem call_list_rev {Q : Value → Shared → Prop} (hh : A.handled = none) {I l : Addr} {items : Array Value} (hne : l ≠ I) (hit : s.heap.IsRevIter I l ((items.size : Int) - 1)) (hl : s.heap.IsList l items)
    (hQ : ∀ h' tk acc' c', (∀ b o, b ≠ I → s.heap.get? b = some o → h'.get? b = some o) →
      h'.get? s.heap.objs.size = some { cls := .type "list", dict := none, data := .seq acc' c', slots := #[] } → ItemsOf (fun i v => items[items.size - 1 - i]? = some v) acc' items.size → Q (.ref s.heap.objs.size) { s with heap := h', toks := tk }) (hn : items.size ≤ sizeLine) :
    wpAny (model prog w) A (call (.type "list") [.ref I]) Q E s := by
  refine callType_codes (Q₁ := fun obj s₁ => obj = .ref s.heap.objs.size ∧ s₁ = { s with heap := s.heap.push { cls := .type "list", data := .seq #[] } }) F.called_list (F.typeCall_list_1 _) F.entry_list_init
    (code_list_new _ ⟨rfl, rfl⟩) fun obj s₁ h₁ => ?_
  obtain ⟨rfl, rfl⟩ := h₁
  have hS : (s.heap.push { cls := .type "list", data := .seq #[] }).get? s.heap.objs.size = some { cls := .type "list", data := .seq #[] } := Heap.get?_push_size _ rfl
  have ltI : I < s.heap.objs.size := by obtain ⟨o, ho, _⟩ := hit; exact Heap.lt_size ho
  have ltl : l < s.heap.objs.size := by obtain ⟨o, ho, _⟩ := hl; exact Heap.lt_size ho
  obtain ⟨lo, hlo, hlr⟩ := hl
  refine ⟨⟨_, hS, rfl⟩, F.args_list_init_2 _ _, wpAny_list_init_rev (A := A.in1) (hn := hn) hh hne (hit.at (fun o => Heap.get?_push_of_some _)) ⟨lo, Heap.get?_push_of_some _ hlo, hlr⟩ _ hS (Nat.ne_of_gt ltI) (Nat.ne_of_gt ltl) fun h' tk acc' c' hk hS' hacc => ?_⟩
  exact ⟨rfl, hQ h' tk acc' c' (fun b o hb e => hk b o (Nat.ne_of_lt (Heap.lt_size e)) hb (Heap.get?_push_of_some _ e)) hS' hacc⟩
end

section
variable {prog : Program} {w : World} {A : Around} {E : Value → Shared → Prop} {s : Shared} {h₀ : Heap} {L : Addr} {m : Str → Option Value} {Q : Value → Shared → Prop}
theorem list_revK {D l : Addr} {vs : List Value} {ks : List Int} {news : Led} (hh : A.handled = none) (F : Fr h₀ L s.heap m) (N : News h₀ L s.heap ((D, revObj l ((vs.length : Int) - 1)) :: news)) (off : ∀ p ∈ news, p.1 ≠ D) (hl : s.heap.IsList l vs.toArray) (hi : IntsAre vs ks) (hlen : ks.length ≤ 2 ^ 20)
    (h : ∀ S h' tk (us : List Value) ep, Fr h₀ L h' m → News h₀ L h' ((S, W.listOf us.toArray ep) :: news) → (∀ p ∈ news, p.1 < S) → IntsAre us ks.reverse → Q (.ref S) { s with heap := h', toks := tk }) :
    wpAny (model prog w) A (call (.type "list") [.ref D]) Q E s := by
  have hIx := N _ (List.mem_cons_self ..)
  have hne : l ≠ D := by
    obtain ⟨o, ho, hc, _⟩ := hl
    intro e
    rw [e, hIx.1] at ho
    have := Option.some.inj ho
    subst this
    exact absurd hc (by simp [revObj])
  have hlen2 : vs.length = ks.length := hi.length
  refine call_list_rev hh hne (items := vs.toArray) ⟨_, hIx.1, rfl, by simp [revObj]⟩ hl (fun h' tk acc' c' hk hS' hacc => ?_) (by rw [sizeLine_eq]; simp; lia)
  have keepF : ∀ b o, h₀.get? b = some o → b ≠ D := fun b o e e' => by rw [e', hIx.2.2] at e; cases e
  refine h _ h' tk acc'.toList c' ?_ ?_ (fun p hp => Heap.lt_size (N p (List.mem_cons_of_mem _ hp)).1) ?_
  · have hLI : L ≠ D := fun e => hIx.2.1 e.symm
    exact ⟨F.ns.at (fun o e => hk _ _ hLI e), fun b o e => hk _ _ (keepF b o e) (F.keep b o e), F.above⟩
  · intro p hp
    rcases List.mem_cons.mp hp with rfl | hp
    · refine ⟨hS', fun e => ?_, ?_⟩
      · obtain ⟨o, _, _, e', _⟩ := F.ns
        exact absurd (Heap.lt_size e') (by rw [← e]; exact Nat.lt_irrefl _)
      · cases e : h₀.get? s.heap.objs.size with
        | none => rfl
        | some o => exact absurd (Heap.lt_size (F.keep _ _ e)) (Nat.lt_irrefl _)
    · have := N p (List.mem_cons_of_mem _ hp)
      exact ⟨hk _ _ (off p hp) this.1, this.2⟩
  · have e : acc'.toList = vs.reverse := by
      refine List.ext_getElem? fun i => ?_
      rcases Nat.lt_or_ge i vs.length with hlt | hge
      · have h1 : i < acc'.toList.length := by have := hacc.1; simp at this ⊢; lia
        have h2 := hacc.2 i acc'[i] (by simp [h1])
        rw [List.getElem?_reverse hlt]
        have e3 : vs[vs.length - 1 - i]? = some acc'[i] := by simpa using h2
        rw [e3]
        simp [h1]
      · rw [List.getElem?_eq_none (by have := hacc.1; simp at this ⊢; lia), List.getElem?_eq_none (by simpa using hge)]
    rw [e]
    exact hi.reverse
end

section
variable {prog : Program} {w : World} {A : Around} {E : Value → Shared → Prop} {s : Shared} {h₀ : Heap} {L : Addr} {Q : Value → Shared → Prop}
theorem len_ints {D : Addr} {vs : List Value} {ks : List Int} {k : Nat} (hl : s.heap.IsList D vs.toArray) (hi : IntsAre vs ks) (hk : ks.length = k) (hf : k < 2 ^ 62) (h : Q (.int (k : Nat) (s.toks + 1)) { s with toks := s.toks + 1 + 1 }) :
    wpAny (model prog w) A (call (.builtin "len") [.ref D]) Q E s := by
  have e : vs.toArray.size = k := by simp [hi.length, hk]
  refine Calls.call_len_list hl (by lia) ?_
  rw [e]
  exact h
theorem kl_reverseU {m : Str → Option Value} {D : Addr} {its : Array Value} {n : Nat} {l : List Value} {news news' : Led} (F : Fr h₀ L s.heap m) (N : News h₀ L s.heap news) (U : Upd D (listOf its n) (listOf l.toArray n) news news') (e : its.toList.reverse = l) (hz : its.toList.length ≤ sizeLine)
    (h : ∀ h', Fr h₀ L h' m → News h₀ L h' news' → Q .none { s with heap := h' }) : wpAny (model prog w) A (call (.builtin "list.reverse") [.ref D]) Q E s := kl_reverse F N e U hz h
end

theorem wpAny_nextOf_ascii_item {prog : Program} {w : World} {A : Around} {E : Value → Shared → Prop} {s : Shared} {it : Addr} {x : Str} {t : Tok} {i c : Nat} {Q : Value → Shared → Prop} (hit : s.heap.IsStrIter it "str_ascii_iterator" x t i) (hx : x.cps[i]? = some c)
    (hQ : ∀ h', h'.IsStrIter it "str_ascii_iterator" x t (i + 1) → Heap.SameBut it s.heap h' → Q (.str ⟨#[c]⟩ s.toks) { s with heap := h', toks := s.toks + 1 }) :
    wpAny (model prog w) A (Builtin.SmallTypes.nextOf (.ref it)) Q E s := by
  obtain ⟨o, ho, hc, hd⟩ := id hit
  unfold Builtin.SmallTypes.nextOf
  refine wpAny_bind (wpAny_callSpecial?_slot (name := Str.ofString "__next__") hit.typeIs F.slot_str_ascii_iterator_next
    (wpAny_call_entry F.slot_str_ascii_iterator_next hit.typeIs F.entry_str_ascii_iterator_next ?_ (F.args_str_ascii_iterator_next_1 _)))
  show wpAny _ _ (field (.ref it) 0 >>= _) _ _ s
  refine wpAny_bind (wpAny_field ho hd (x := .str x t) rfl ?_)
  show wpAny _ _ (field (.ref it) 1 >>= _) _ _ s
  refine wpAny_bind (wpAny_field ho hd (x := .int i 0) rfl ?_)
  simp only [Int.toNat_natCast, hx]
  refine wpAny_bind (wpAny_setField ho hd (by simp) (wpAny_bind (wpAny_mkStr (wpAny_pure ⟨_, rfl, wpAny_pure (hQ _ ?_ (Heap.SameBut.update ..))⟩) (by show 1 ≤ sizeLine; decide))))
  exact ⟨_, Heap.get?_update_self _ ho (Obj.isFreed_of_fields (Obj.data_mapFields hd _)), (Obj.cls_mapFields ..).trans hc, by
    rw [Obj.data_mapFields hd]; simp [rawInt]⟩
theorem wpAny_nextOf_ascii_end {prog : Program} {w : World} {A : Around} {E : Value → Shared → Prop} {s : Shared} {it : Addr} {x : Str} {t : Tok} {i : Nat} {Q : Value → Shared → Prop} (hh : A.handled = none)
    (hit : s.heap.IsStrIter it "str_ascii_iterator" x t i) (hx : x.cps[i]? = none)
    (hE : ∀ h' e, Heap.ExtBut it s.heap h' → (∃ o, h'.get? e = some o ∧ o.cls = .type "StopIteration") → E (.ref e) { s with heap := h' }) :
    wpAny (model prog w) A (Builtin.SmallTypes.nextOf (.ref it)) Q E s := by
  obtain ⟨o, ho, hc, hd⟩ := id hit
  unfold Builtin.SmallTypes.nextOf
  refine wpAny_bind (wpAny_callSpecial?_slot (name := Str.ofString "__next__") hit.typeIs F.slot_str_ascii_iterator_next
    (wpAny_call_entry F.slot_str_ascii_iterator_next hit.typeIs F.entry_str_ascii_iterator_next ?_ (F.args_str_ascii_iterator_next_1 _)))
  show wpAny _ _ (field (.ref it) 0 >>= _) _ _ s
  refine wpAny_bind (wpAny_field ho hd (x := .str x t) rfl ?_)
  show wpAny _ _ (field (.ref it) 1 >>= _) _ _ s
  refine wpAny_bind (wpAny_field ho hd (x := .int i 0) rfl ?_)
  simp only [Int.toNat_natCast, hx]
  refine wpAny_bind (wpAny_rule (wpAny_bind (wpAny_setField ho hd (by simp) (wpAny_bind (wpAny_letGo ?_)))))
  show wpAny _ _ (newExc (.type "StopIteration") [] >>= _) _ _ _
  refine wpAny_bind ?_
  simp only [newExc, newTuple]
  refine wpAny_bind (wpAny_newObj_type ?_ (by size_fits))
  refine wpAny_bind (m := firstArgMember _ _) (wpAny_of_eq (a := Value.none) (by first | rfl | (simp only [firstArgMember]; rfl)) ?_)
  refine wpAny_newObj_type ?_ (by size_fits)
  simp only [raiseNew]
  refine wpAny_bind (wpAny_handled ?_)
  first | rw [show A.in1.handled = none from hh] | rw [hh]
  refine wpAny_bind (wpAny_pure (wpAny_throw ?_))
  exact hE _ _ (((Heap.SameBut.update ..).extBut.push _).push _) ⟨_, Heap.get?_push_size _ rfl, rfl⟩

inductive Src | lst (l : Addr) (xs : Array Value) | txt (x : Str) (t : Tok)
def Src.fp : Src → List Addr | .lst l _ => [l] | .txt .. => []
def Src.n : Src → Nat | .lst _ xs => xs.size | .txt x _ => x.cps.size
def Src.cls : Src → String | .lst .. => "list_iterator" | .txt .. => "str_ascii_iterator"
def Src.St (I : Addr) (k : Nat) (h : Heap) : Src → Prop | .lst l xs => h.IsListIter I l k ∧ h.IsList l xs | .txt x t => h.IsStrIter I "str_ascii_iterator" x t k
def Src.P (k : Nat) (v : Value) : Src → Prop | .lst _ xs => xs[k]? = some v | .txt x _ => SignAt x k v
def Src.val : Src → Value | .lst l _ => .ref l | .txt x t => .str x t
def Src.ok (h : Heap) : Src → Prop | .lst l xs => h.IsList l xs | .txt x _ => x.cps.all (· < 128) = true
theorem Src.St.frame {I k} {h h' : Heap} : ∀ {x : Src}, x.St I k h → (∀ b o, (b = I ∨ b ∈ x.fp) → h.get? b = some o → h'.get? b = some o) → x.St I k h'
  | .lst l xs, ⟨a, b⟩, hk => ⟨a.at fun o e => hk _ o (.inl rfl) e, b.at fun o e => hk _ o (.inr (by simp [Src.fp])) e⟩
  | .txt x t, a, hk => let ⟨o, ho, r⟩ := a; ⟨o, hk _ o (.inl rfl) ho, r⟩
theorem Src.St.here {I k} {h : Heap} : ∀ {x : Src}, x.St I k h → ∃ o, h.get? I = some o ∧ o.cls = .type x.cls
  | .lst l xs, ⟨⟨o, a, b, _⟩, _⟩ => ⟨o, a, b⟩
  | .txt x t, ⟨o, a, b, _⟩ => ⟨o, a, b⟩
section
variable {prog : Program} {w : World} {A : Around} {E : Value → Shared → Prop} {s : Shared}
theorem Src.item {x : Src} {I : Addr} {k : Nat} {Q : Value → Shared → Prop} (hx : ∀ b ∈ x.fp, b ≠ I) (st : x.St I k s.heap) (hk : k < x.n)
    (hQ : ∀ v h' tk, x.P k v → x.St I (k + 1) h' → Heap.SameBut I s.heap h' → Q v { s with heap := h', toks := tk }) : wpAny (model prog w) A (Builtin.SmallTypes.nextOf (.ref I)) Q E s := by
  cases x with
  | lst l xs =>
    obtain ⟨a, b⟩ := st
    have hk' : k < xs.size := hk
    refine wpAny_nextOf_list_item a b (x := xs[k]) (by simp [hk']) fun h' h1 h2 => ?_
    exact hQ _ h' s.toks (by simp [Src.P, hk']) ⟨h1, b.extBut h2.extBut (hx l (by simp [Src.fp]))⟩ h2
  | txt x t =>
    have hk' : k < x.cps.size := hk
    refine wpAny_nextOf_ascii_item st (c := x.cps[k]) (by simp [hk']) fun h' h1 h2 => ?_
    exact hQ _ h' _ ⟨_, _, by simp [hk'], rfl⟩ h1 h2
theorem Src.stop {x : Src} {I : Addr} {Q : Value → Shared → Prop} (hh : A.handled = none) (st : x.St I x.n s.heap)
    (hE : ∀ h' e, Heap.ExtBut I s.heap h' → (∃ o, h'.get? e = some o ∧ o.cls = .type "StopIteration") → E (.ref e) { s with heap := h' }) : wpAny (model prog w) A (Builtin.SmallTypes.nextOf (.ref I)) Q E s := by
  cases x with
  | lst l xs => exact wpAny_nextOf_list_end hh st.1 st.2 (by simp [Src.n]) hE
  | txt x t => exact wpAny_nextOf_ascii_end hh st (by simp [Src.n]) hE
theorem Src.make {x : Src} {Q : Value → Shared → Prop} (ok : x.ok s.heap)
    (hQ : ∀ o, x.St s.heap.objs.size 0 (s.heap.push o) → Q (.ref s.heap.objs.size) { s with heap := s.heap.push o }) : wpAny (model prog w) A (pyIter x.val) Q E s := by
  cases x with
  | lst l xs => exact wpAny_pyIter_list ok (hQ _ ⟨⟨_, Heap.get?_push_size _ rfl, rfl, rfl⟩, Heap.IsList.at ok fun o e => Heap.get?_push_of_some _ e⟩)
  | txt x t => exact wpAny_pyIter_ascii ok (hQ _ ⟨_, Heap.get?_push_size _ rfl, rfl, rfl⟩)
end
def numb : Nat → List Src → List (Addr × Src) | _, [] => [] | a, x :: r => (a, x) :: numb (a + 1) r
theorem numb_length : ∀ (a : Nat) (l : List Src), (numb a l).length = l.length
  | _, [] => rfl
  | a, _ :: r => congrArg (· + 1) (numb_length (a + 1) r)
theorem numb_snoc : ∀ (a : Nat) (l : List Src) (x : Src), numb a (l ++ [x]) = numb a l ++ [(a + l.length, x)]
  | _, [], _ => rfl
  | a, y :: r, x => by
    show (a, y) :: numb (a + 1) (r ++ [x]) = (a, y) :: (numb (a + 1) r ++ [(a + (r.length + 1), x)])
    rw [numb_snoc (a + 1) r x, show a + 1 + r.length = a + (r.length + 1) by lia]
theorem numb_mem : ∀ {a : Nat} {l : List Src} {p : Addr × Src}, p ∈ numb a l → a ≤ p.1 ∧ p.1 < a + l.length ∧ p.2 ∈ l
  | _, [], _, h => nomatch h
  | a, x :: r, p, h => by
    rcases List.mem_cons.mp h with rfl | h
    · exact ⟨Nat.le_refl _, by simp, .head _⟩
    · obtain ⟨h1, h2, h3⟩ := numb_mem h
      exact ⟨Nat.le_of_succ_le h1, Nat.lt_of_lt_of_eq h2 (Nat.succ_add_eq_add_succ a r.length), .tail _ h3⟩
theorem numb_pair : ∀ (a : Nat) (l : List Src), (numb a l).Pairwise (fun p q => p.1 ≠ q.1)
  | _, [] => .nil
  | a, x :: r => .cons (fun q hq e => Nat.ne_of_lt (numb_mem hq).1 e) (numb_pair (a + 1) r)
abbrev refs (its : List (Addr × Src)) : List Value := its.map fun p => .ref p.1
inductive Draws (i : Nat) : List Src → List Value → Prop
  | nil : Draws i [] []
  | cons {x : Src} {v : Value} {r : List Src} {vs : List Value} (h : x.P i v) (t : Draws i r vs) : Draws i (x :: r) (v :: vs)
theorem Draws.length {i : Nat} : ∀ {l : List Src} {vs : List Value}, Draws i l vs → vs.length = l.length
  | _, _, .nil => rfl
  | _, _, .cons _ t => congrArg (· + 1) t.length
theorem Draws.snoc {i : Nat} {x : Src} {v : Value} (h : x.P i v) : ∀ {l : List Src} {vs : List Value}, Draws i l vs → Draws i (l ++ [x]) (vs ++ [v])
  | _, _, .nil => .cons h .nil
  | _, _, .cons a t => .cons a (t.snoc h)
abbrev IsTI (h : Heap) (TI : Addr) (vs : List Value) : Prop := h.get? TI = some { cls := .type "tuple", data := .seq vs.toArray }
def IsTO (h : Heap) (TO : Addr) (vs : List Value) : Prop := ∃ n, h.get? TO = some { cls := .type "tuple", dict := none, data := .seq vs.toArray n, slots := #[] }
structure ZA (z TI TO : Addr) (its : List (Addr × Src)) : Prop where
  TIz : TI ≠ z
  TOz : TO ≠ z
  TIO : TI ≠ TO
  pw : its.Pairwise (fun p q => p.1 ≠ q.1)
  off : ∀ p ∈ its, p.1 ≠ z ∧ p.1 ≠ TO ∧ p.1 ≠ TI ∧ ∀ b ∈ p.2.fp, b ≠ z ∧ b ≠ TO ∧ ∀ q ∈ its, b ≠ q.1
section
variable {prog : Program} {w : World} {A : Around} {E : Value → Shared → Prop} {s : Shared}
theorem IsTO.frame {h h' : Heap} {TO : Addr} {vs : List Value} (x : IsTO h TO vs) (hk : ∀ o, h.get? TO = some o → h'.get? TO = some o) : IsTO h' TO vs := let ⟨n, e⟩ := x; ⟨n, hk _ e⟩
theorem wpAny_updateTO {TO : Addr} {vs junk : List Value} {x y : Value} {Q : Unit → Shared → Prop} (hT : IsTO s.heap TO (vs ++ y :: junk)) (hz : (vs ++ y :: junk).length ≤ 1000)
    (h : ∀ h', IsTO h' TO ((vs ++ [x]) ++ junk) → Heap.SameBut TO s.heap h' → Q () { s with heap := h' }) :
    wpAny (model prog w) A (updateSeq TO (·.setIfInBounds vs.length x)) Q E s := by
  obtain ⟨n, e⟩ := hT
  have hz' : (vs ++ y :: junk).toArray.size ≤ 1000 := by simpa using hz
  refine wpAny_updateSeq e rfl (h _ ⟨n, ?_⟩ (Heap.SameBut.update ..)) (by rw [sizeLine_eq]; lia) (by rw [sizeLine_eq]; simp at hz' ⊢; lia)
  rw [Heap.get?_update_self _ e rfl]
  simp [Obj.mapSeq]
end

/- the turns of a zip's next item -/
inductive ZI (s : Shared) (z TI TO : Addr) (its : List (Addr × Src)) (i : Nat) {β : Type} (l : List (Value × Nat)) (b1 : Option β) (s' : Shared) : Prop
  | mk (hb : b1 = none) (done rest : List (Addr × Src)) (vals junk : List Value) (h' : Heap) (tk : Nat) (e1 : its = done ++ rest) (e2 : l = (refs rest).zipIdx done.length) (e3 : s' = { s with heap := h', toks := tk }) (dr : Draws i (done.map (·.2)) vals) (hj : junk.length = rest.length)
    (zz : IsZip h' z TI TO .ellipsis) (to : IsTO h' TO (vals ++ junk)) (d1 : ∀ p ∈ done, p.2.St p.1 (i + 1) h') (d2 : ∀ p ∈ rest, p.2.St p.1 i h') (sz : h'.objs.size = s.heap.objs.size)
    (keep : ∀ c o, c ≠ z → c ≠ TO → (∀ p ∈ its, c ≠ p.1) → s.heap.get? c = some o → h'.get? c = some o)
section
variable {prog : Program} {w : World} {A : Around} {E : Value → Shared → Prop} {s : Shared}
theorem zipG_item {z TI TO : Addr} {its : List (Addr × Src)} {i : Nat} {old : List Value} {Q : Value → Shared → Prop} (D : ZA z TI TO its) (hne : its ≠ []) (hsmall : its.length ≤ 100)
    (hz : IsZip s.heap z TI TO .none) (hTI : IsTI s.heap TI (refs its)) (hTO : IsTO s.heap TO old) (hold : old.length = its.length)
    (hst : ∀ p ∈ its, p.2.St p.1 i s.heap) (hlt : ∀ p ∈ its, i < p.2.n)
    (hQ : ∀ (T : Addr) h' tk vals, Draws i (its.map (·.2)) vals → IsZip h' z TI TO (rawInt (T : Nat)) → IsTI h' TI (refs its) → IsTO h' TO vals → (∀ p ∈ its, p.2.St p.1 (i + 1) h') → IsTI h' T vals → s.heap.objs.size ≤ T →
      (∀ c o, c ≠ z → c ≠ TO → (∀ p ∈ its, c ≠ p.1) → s.heap.get? c = some o → h'.get? c = some o) → Q (.ref T) { s with heap := h', toks := tk }) :
    wpAny (model prog w) A (Builtin.«zip.__next__» ⟨[.ref z], []⟩) (fun fin s' => ∃ v, fin = .done (.ret v) ∧ Q v s') E s := by
  show wpAny _ _ (field (.ref z) 2 >>= _) _ _ _
  refine wpAny_bind (wpAny_field hz rfl (x := .bool false) rfl ?_)
  show wpAny _ _ (field (.ref z) 3 >>= _) _ _ _
  refine wpAny_bind (wpAny_field hz rfl (x := .ref TI) rfl ?_)
  refine wpAny_bind (wpAny_seqItems hTI rfl ?_)
  have he : (refs its).toArray.isEmpty = false := by
    cases its with
    | nil => exact absurd rfl hne
    | cons a r => simp [refs]
  simp only [he, Bool.false_eq_true, if_false]
  show wpAny _ _ (Builtin.SmallTypes.ownedTupleIsFree (.ref z) >>= _) _ _ _
  refine wpAny_bind ?_
  unfold Builtin.SmallTypes.ownedTupleIsFree
  refine wpAny_bind (wpAny_field hz rfl (x := .none) rfl (wpAny_pure ?_))
  simp only [if_true]
  refine wpAny_bind (wpAny_rule ?_)
  refine wpAny_bind (wpAny_field hz rfl (x := .ref TO) rfl ?_)
  refine wpAny_bind (wpAny_setField_rec hz (by simp) fun h₁ hz₁ hs₁ => ?_)
  replace hz₁ : IsZip h₁ z TI TO .ellipsis := hz₁
  refine wpAny_bind ?_
  refine wpAny_forIn_list _ (fun l b s' => ZI s z TI TO its i l b.1 s') _ ?_ ?_ _ _ ?_
  · rintro ⟨v, k⟩ rest b s' hz0
    refine hide ?_
    intro Z hZ
    obtain ⟨hb, done, rest', vals, junk, h', tk, e1, e2, rfl, dr, hj, zz, to, d1, d2, sz, keep⟩ := hz0
    cases rest' with
    | nil => exact absurd e2 (by simp [refs])
    | cons q rest'' =>
      cases junk with
      | nil => exact absurd hj (by simp)
      | cons y junk' =>
        have e2' : (v, k) :: rest = (Value.ref q.1, done.length) :: (refs rest'').zipIdx (done.length + 1) := by rw [e2]; simp [refs]
        obtain ⟨ev, er⟩ := List.cons.inj e2'
        obtain ⟨rfl, rfl⟩ := Prod.mk.inj ev
        have hq : q ∈ its := by rw [e1]; simp
        obtain ⟨qz, qO, qI, qfp⟩ := D.off q hq
        refine hZ ?_
        clear hZ Z
        refine wpAny_bind (wpAny_onRaise ?_)
        show wpAny _ _ (Builtin.SmallTypes.nextOf (.ref q.1) >>= _) _ _ _
        refine wpAny_bind (Src.item (x := q.2) (fun b hb => (qfp b hb).2.2 q hq) (d2 q (.head _)) (hlt q hq) fun v h₂ tk₂ hP hS hs₂ => wpAny_pure ?_)
        have hTO₂ : IsTO h₂ TO (vals ++ y :: junk') := to.frame fun o e => hs₂.extBut _ _ (Ne.symm qO) e
        obtain ⟨nn, eTO⟩ := id hTO₂
        refine wpAny_bind (wpAny_seqItems eTO rfl ?_)
        have hvl : vals.length = done.length := by rw [dr.length]; simp
        have hsz : (vals ++ y :: junk').length ≤ 1000 := by
          have h1 := congrArg List.length e1
          simp at h1 hj ⊢
          lia
        show wpAny _ _ (updateSeq TO (fun x_1 => x_1.setIfInBounds done.length v) >>= _) _ _ _
        rw [← hvl]
        refine wpAny_bind (wpAny_updateTO hTO₂ hsz fun h₃ hTO₃ hs₃ => ?_)
        refine wpAny_bind (wpAny_letGo (wpAny_pure ?_))
        have dis : ∀ p ∈ done ++ rest'', p.1 ≠ q.1 := by
          have pw := D.pw
          rw [e1] at pw
          obtain ⟨_, h2, h3⟩ := List.pairwise_append.mp pw
          intro p hp
          rcases List.mem_append.mp hp with hp | hp
          · exact h3 p hp q (.head _)
          · exact Ne.symm ((List.pairwise_cons.mp h2).1 p hp)
        have mov : ∀ p ∈ done ++ rest'', ∀ j, p.2.St p.1 j h' → p.2.St p.1 j h₃ := by
          intro p hp j st
          have hpi : p ∈ its := by rw [e1]; rcases List.mem_append.mp hp with hp | hp <;> simp [hp]
          obtain ⟨_, pO, _, pfp⟩ := D.off p hpi
          refine st.frame fun b o hb e => ?_
          rcases hb with rfl | hb
          · exact hs₃.extBut _ _ pO (hs₂.extBut _ _ (dis p hp) e)
          · exact hs₃.extBut _ _ (pfp b hb).2.1 (hs₂.extBut _ _ ((pfp b hb).2.2 q hq) e)
        refine ⟨rfl, done ++ [q], rest'', vals ++ [v], junk', h₃, tk₂, by rw [e1]; simp, ?_, rfl, ?_, by simpa using hj, ?_, hTO₃, ?_, ?_, ?_, ?_⟩
        · rw [er, List.length_append, List.length_singleton]
        · rw [List.map_append]; exact dr.snoc hP
        · exact hs₃.extBut _ _ (Ne.symm D.TOz) (hs₂.extBut _ _ (Ne.symm qz) zz)
        · intro p hp
          rcases List.mem_append.mp hp with hp | hp
          · exact mov p (List.mem_append_left _ hp) _ (d1 p hp)
          · rw [List.mem_singleton.mp hp]
            refine hS.frame fun b o hb e => ?_
            rcases hb with rfl | hb
            · exact hs₃.extBut _ _ qO e
            · exact hs₃.extBut _ _ (qfp b hb).2.1 e
        · intro p hp
          exact mov p (List.mem_append_right _ hp) _ (d2 p (.tail _ hp))
        · rw [hs₃.1, hs₂.1, sz]
        · intro c o c1 c2 c3 e
          exact hs₃.extBut _ _ c2 (hs₂.extBut _ _ (c3 q hq) (keep c o c1 c2 c3 e))
  · rintro b s' hz0
    refine hide ?_
    intro Z hZ
    obtain ⟨hb, done, rest', vals, junk, h', tk, e1, e2, rfl, dr, hj, zz, to, d1, d2, sz, keep⟩ := hz0
    cases rest' with
    | cons q r => exact absurd e2 (by simp [refs])
    | nil =>
      have hj0 : junk = [] := List.length_eq_zero_iff.mp (by simpa using hj)
      subst hj0
      rw [List.append_nil] at e1 to
      subst e1
      obtain ⟨nn, eTO⟩ := id to
      refine hZ ?_
      clear hZ Z
      rw [hb]
      refine wpAny_bind (wpAny_seqItems eTO rfl ?_)
      have hvl : vals.length = its.length := by rw [dr.length]; simp
      refine wpAny_bind (wpAny_newTuple ?_ (by rw [sizeLine_eq]; simp; lia))
      have zlt : z < h'.objs.size := Heap.lt_size zz
      have Olt : TO < h'.objs.size := Heap.lt_size eTO
      show wpAny _ _ (Builtin.SmallTypes.ownedTupleHandOut (.ref z) (.ref h'.objs.size) >>= _) _ _ _
      refine wpAny_bind ?_
      unfold Builtin.SmallTypes.ownedTupleHandOut
      have hz₆ : IsZip (h'.push { cls := .type "tuple", data := .seq vals.toArray.toList.toArray }) z TI TO .ellipsis := Heap.get?_push_of_some _ zz
      refine wpAny_bind (wpAny_setField_rec hz₆ (by simp) fun h₇ hz₇ hs₇ => ?_)
      replace hz₇ : IsZip h₇ z TI TO (rawInt h'.objs.size) := hz₇
      refine wpAny_setField_rec hz₇ (by simp) fun h₈ hz₈ hs₈ => ?_
      replace hz₈ : IsZip h₈ z TI TO (rawInt h'.objs.size) := hz₈
      have up : ∀ c o, c ≠ z → h'.get? c = some o → h₈.get? c = some o := fun c o c1 e => hs₈.extBut _ _ c1 (hs₇.extBut _ _ c1 (Heap.get?_push_of_some _ e))
      refine wpAny_pure ⟨_, rfl, ?_⟩
      refine hQ h'.objs.size h₈ tk vals dr hz₈ (up _ _ D.TIz (keep _ _ D.TIz D.TIO (fun p hp => Ne.symm (D.off p hp).2.2.1) hTI)) ⟨nn, up _ _ D.TOz eTO⟩ ?_ ?_ (Nat.le_of_eq sz.symm) fun c o c1 c2 c3 e => up c o c1 (keep c o c1 c2 c3 e)
      · intro p hp
        obtain ⟨pz, pO, _, pfp⟩ := D.off p hp
        refine (d1 p hp).frame fun b o hb e => up b o ?_ e
        rcases hb with rfl | hb
        · exact pz
        · exact (pfp b hb).1
      · have h9 : (h'.push { cls := .type "tuple", data := .seq vals.toArray.toList.toArray }).get? h'.objs.size = some { cls := .type "tuple", data := .seq vals.toArray.toList.toArray } := Heap.get?_push_size _ rfl
        have h10 := hs₈.extBut _ _ (Nat.ne_of_gt zlt) (hs₇.extBut _ _ (Nat.ne_of_gt zlt) h9)
        simpa using h10
  · refine ⟨rfl, [], its, [], old, h₁, s.toks, rfl, rfl, rfl, .nil, hold, hz₁, hTO.frame (fun o e => hs₁.extBut _ _ D.TOz e), (fun _ h => nomatch h), (fun p hp => ?_), hs₁.1, fun c o c1 _ _ e => hs₁.extBut _ _ c1 e⟩
    obtain ⟨pz, pO, _, pfp⟩ := D.off p hp
    refine (hst p hp).frame fun b o hb e => ?_
    rcases hb with rfl | hb
    · exact hs₁.extBut _ _ pz e
    · exact hs₁.extBut _ _ (pfp b hb).1 e
end

section
variable {prog : Program} {w : World} {A : Around} {E : Value → Shared → Prop} {s : Shared}
theorem zipG_end {z TI TO : Addr} {q : Addr × Src} {its : List (Addr × Src)} {Q : Fin → Shared → Prop} (hh : A.handled = none) (D : ZA z TI TO (q :: its))
    (hz : IsZip s.heap z TI TO .none) (hTI : IsTI s.heap TI (refs (q :: its))) (hst : q.2.St q.1 q.2.n s.heap)
    (hE : ∀ h' e, (∀ c o, c ≠ z → c ≠ q.1 → s.heap.get? c = some o → h'.get? c = some o) → (∃ o, h'.get? e = some o ∧ o.cls = .type "StopIteration") → E (.ref e) { s with heap := h' }) :
    wpAny (model prog w) A (Builtin.«zip.__next__» ⟨[.ref z], []⟩) Q E s := by
  obtain ⟨qz, qO, qI, qfp⟩ := D.off q (.head _)
  show wpAny _ _ (field (.ref z) 2 >>= _) _ _ _
  refine wpAny_bind (wpAny_field hz rfl (x := .bool false) rfl ?_)
  show wpAny _ _ (field (.ref z) 3 >>= _) _ _ _
  refine wpAny_bind (wpAny_field hz rfl (x := .ref TI) rfl ?_)
  refine wpAny_bind (wpAny_seqItems hTI rfl ?_)
  have he : (refs (q :: its)).toArray.isEmpty = false := by simp [refs]
  simp only [he, Bool.false_eq_true, if_false]
  show wpAny _ _ (Builtin.SmallTypes.ownedTupleIsFree (.ref z) >>= _) _ _ _
  refine wpAny_bind ?_
  unfold Builtin.SmallTypes.ownedTupleIsFree
  refine wpAny_bind (wpAny_field hz rfl (x := .none) rfl (wpAny_pure ?_))
  simp only [if_true]
  refine wpAny_bind (wpAny_rule ?_)
  refine wpAny_bind (wpAny_field hz rfl (x := .ref TO) rfl ?_)
  refine wpAny_bind (wpAny_setField_rec hz (by simp) fun h₁ hz₁ hs₁ => ?_)
  replace hz₁ : IsZip h₁ z TI TO .ellipsis := hz₁
  refine wpAny_bind ?_
  simp only [refs, List.map_cons, List.zipIdx_cons, List.forIn_cons]
  refine wpAny_bind (wpAny_bind (wpAny_onRaise ?_))
  show wpAny _ _ (Builtin.SmallTypes.nextOf (.ref q.1) >>= _) _ _ _
  refine wpAny_bind (Src.stop (x := q.2) hh (hst.frame fun b o hb e => ?_) fun h₂ e hs₂ he => ?_)
  · rcases hb with rfl | hb
    · exact hs₁.extBut _ _ qz e
    · exact hs₁.extBut _ _ (qfp b hb).1 e
  · obtain ⟨oe, hoe, hce⟩ := he
    have hz₂ : IsZip h₂ z TI TO .ellipsis := hs₂ _ _ (Ne.symm qz) hz₁
    have hez : e ≠ z := fun x => by subst x; rw [hz₂] at hoe; cases hoe; simp at hce
    refine wpAny_setField_rec hz₂ (by simp) fun h₃ _ hs₃ => hE h₃ e (fun c o c1 c3 x => hs₃.extBut _ _ c1 (hs₂ _ _ c3 (hs₁.extBut _ _ c1 x))) ⟨oe, hs₃.extBut _ _ hez hoe, hce⟩

/- all that a zip keeps, ahead of its i-th turn -/
structure ZSt (z TI TO : Addr) (its : List (Addr × Src)) (f0 : Value) (i : Nat) (h : Heap) : Prop where
  z : IsZip h z TI TO f0
  ti : IsTI h TI (refs its)
  tov : ∃ old, IsTO h TO old ∧ old.length = its.length
  st : ∀ p ∈ its, p.2.St p.1 i h
def zfp (z TI TO : Addr) (its : List (Addr × Src)) : List Addr := [z, TI, TO] ++ (its.map (·.1) ++ its.flatMap (fun p => p.2.fp))
def zwr (z TO : Addr) (its : List (Addr × Src)) : List Addr := [z, TO] ++ its.map (·.1)
theorem mem_zwr {z TO c : Addr} {its : List (Addr × Src)} (h : c ∉ zwr z TO its) : c ≠ z ∧ c ≠ TO ∧ ∀ p ∈ its, c ≠ p.1 := by
  refine ⟨fun e => h (by simp [zwr, e]), fun e => h (by simp [zwr, e]), fun p hp e => h ?_⟩
  exact List.mem_append_right _ (by rw [e]; exact List.mem_map_of_mem hp)
theorem ZSt.frame {z TI TO : Addr} {its : List (Addr × Src)} {f0 : Value} {i : Nat} {h h' : Heap} (x : ZSt z TI TO its f0 i h) (hk : ∀ b ∈ zfp z TI TO its, ∀ o, h.get? b = some o → h'.get? b = some o) : ZSt z TI TO its f0 i h' where
  z := hk z (by simp [zfp]) _ x.z
  ti := hk TI (by simp [zfp]) _ x.ti
  tov := let ⟨old, a, b⟩ := x.tov; ⟨old, a.frame (hk TO (by simp [zfp])), b⟩
  st := fun p hp => (x.st p hp).frame fun b o hb e => hk b (by
    rcases hb with rfl | hb
    · exact List.mem_append_right _ (List.mem_append_left _ (List.mem_map_of_mem hp))
    · exact List.mem_append_right _ (List.mem_append_right _ (List.mem_flatMap.mpr ⟨p, hp, hb⟩))) o e
theorem WalksU.zipG (hh : A.handled = none) {z TI TO : Addr} {q : Addr × Src} {its : List (Addr × Src)} (D : ZA z TI TO (q :: its)) (hsmall : (q :: its).length ≤ 100) (hn : ∀ p ∈ q :: its, q.2.n ≤ p.2.n) :
    WalksU prog w A z (zfp z TI TO (q :: its)) (zwr z TO (q :: its)) q.2.n
      (fun i vals => Draws i ((q :: its).map (·.2)) vals.toList)
      (fun i h => ZSt z TI TO (q :: its) .none i h)
      (fun i T h => ZSt z TI TO (q :: its) (rawInt (T : Nat)) (i + 1) h ∧ T ∉ zwr z TO (q :: its)) where
  sub := fun c hc => by
    rcases List.mem_append.mp hc with hc | hc
    · refine List.mem_append_left _ ?_
      simp at hc ⊢
      rcases hc with h | h <;> simp [h]
    · exact List.mem_append_right _ (List.mem_append_left _ hc)
  frame := fun i h h' hst hk => hst.frame hk
  item := fun i s Q E hi hst hQ => by
    obtain ⟨old, ho, hol⟩ := hst.tov
    have hT : s.TypeIs (.ref z) "zip" := ⟨_, hst.z, rfl⟩
    unfold pyNext
    refine wpAny_bind (wpAny_attempt (wpAny_callSpecial?_slot (name := Str.ofString "__next__") hT F.slot_zip_next
      (wpAny_call_entry F.slot_zip_next hT F.entry_zip_next
        (zipG_item D (by simp) hsmall hst.z hst.ti ho hol hst.st (fun p hp => Nat.lt_of_lt_of_le hi (hn p hp)) fun T h' tk vals dr zz ti to st tt hge keep => wpAny_pure ?_) (F.args_zip_next_1 _))))
    have lt : ∀ {c : Addr} {o : Obj}, s.heap.get? c = some o → T ≠ c := fun e => Nat.ne_of_gt (Nat.lt_of_lt_of_le (Heap.lt_size e) hge)
    refine hQ T vals.toArray h' tk (by simpa using dr) ⟨_, tt, rfl, 0, rfl⟩ ⟨⟨zz, ti, ⟨vals, to, by rw [dr.length]; simp⟩, st⟩, fun hm => ?_⟩ fun c o hc e => ?_
    · rcases List.mem_append.mp hm with hm | hm
      · rcases List.mem_cons.mp hm with rfl | hm
        · exact lt hst.z rfl
        · obtain ⟨n, e⟩ := ho
          exact lt e (List.mem_singleton.mp hm)
      · obtain ⟨p, hp, e⟩ := List.mem_map.mp hm
        obtain ⟨o, e', _⟩ := (hst.st p hp).here
        exact lt e' e.symm
    · obtain ⟨c1, c2, c3⟩ := mem_zwr hc
      exact keep c o c1 c2 c3 e
  go := fun elts k pos i T s Q E hm hQ => by
    obtain ⟨hm, _⟩ := hm
    refine wpAny_letOwnedTupleGo_zip hm.z fun h' hz' hs' => hQ h' ⟨hz', hs'.extBut _ _ D.TIz hm.ti, ?_, ?_⟩ fun c o hc e => hs'.extBut _ _ (mem_zwr hc).1 e
    · obtain ⟨old, a, b⟩ := hm.tov
      exact ⟨old, a.frame fun o e => hs'.extBut _ _ D.TOz e, b⟩
    · intro p hp
      obtain ⟨pz, _, _, pfp⟩ := D.off p hp
      refine (hm.st p hp).frame fun b o hb e => ?_
      rcases hb with rfl | hb
      · exact hs'.extBut _ _ pz e
      · exact hs'.extBut _ _ (pfp b hb).1 e
  apart := fun i T h hm hT => hm.2 hT
  done := fun s Q E hst hQ => by
    have hT : s.TypeIs (.ref z) "zip" := ⟨_, hst.z, rfl⟩
    unfold pyNext
    refine wpAny_bind (wpAny_attempt (wpAny_callSpecial?_slot (name := Str.ofString "__next__") hT F.slot_zip_next
      (wpAny_call_entry F.slot_zip_next hT F.entry_zip_next (zipG_end hh D hst.z hst.ti (hst.st q (.head _)) fun h' e hk he => ?_) (F.args_zip_next_1 _))))
    obtain ⟨o, ho, hc⟩ := he
    refine wpAny_bind (wpAny_isInstance (T := "StopIteration") (b := true) ⟨o, ho, hc⟩ isSubtype_stop ?_)
    exact wpAny_pure (hQ _ s.toks fun c o hc e => let ⟨c1, _, c3⟩ := mem_zwr hc; hk c o c1 (c3 q (.head _)) e)
  self := fun i s Q E hst hQ => wpAny_pyIter_zip hst.z hQ
end

section
variable {prog : Program} {w : World} {A : Around} {E : Value → Shared → Prop} {s : Shared}
theorem Src.ok.mono {x : Src} {h h' : Heap} (o : x.ok h) (hk : ∀ b o, h.get? b = some o → h'.get? b = some o) : x.ok h' := by
  cases x with
  | lst l xs => exact Heap.IsList.at o (hk l)
  | txt x t => exact o
theorem wpAny_iterAll {srcs : List Src} {Q : List Value → Shared → Prop} (ok : ∀ x ∈ srcs, x.ok s.heap)
    (hQ : ∀ h', (∀ b o, s.heap.get? b = some o → h'.get? b = some o) → h'.objs.size = s.heap.objs.size + srcs.length → (∀ p ∈ numb s.heap.objs.size srcs, p.2.St p.1 0 h') → Q (refs (numb s.heap.objs.size srcs)) { s with heap := h' }) :
    wpAny (model prog w) A (Builtin.SmallTypes.iterAll (srcs.map Src.val)) Q E s := by
  unfold Builtin.SmallTypes.iterAll
  refine wpAny_bind ?_
  refine wpAny_forIn_list _ (fun l b s' => ∃ done rest h', srcs = done ++ rest ∧ l = rest.map Src.val ∧ b = (refs (numb s.heap.objs.size done)).toArray ∧ s' = { s with heap := h' } ∧
    (∀ b o, s.heap.get? b = some o → h'.get? b = some o) ∧ h'.objs.size = s.heap.objs.size + done.length ∧ (∀ p ∈ numb s.heap.objs.size done, p.2.St p.1 0 h')) _ ?_ ?_ _ _ ?_
  · rintro v l b s' ⟨done, rest, h', e1, e2, rfl, rfl, keep, sz, st⟩
    cases rest with
    | nil => exact absurd e2 (by simp)
    | cons x r =>
      obtain ⟨rfl, rfl⟩ := List.cons.inj e2
      refine wpAny_bind (wpAny_holding (Src.make ((ok x (by rw [e1]; simp)).mono keep) fun o hS => wpAny_pure ?_))
      refine ⟨done ++ [x], r, h'.push o, by rw [e1]; simp, rfl, ?_, rfl, fun b o' e => Heap.get?_push_of_some _ (keep b o' e), by rw [Heap.size_push, sz]; simp [Nat.add_assoc], fun p hp => ?_⟩
      · rw [numb_snoc, ← sz]
        simp [refs]
      · rw [numb_snoc] at hp
        rcases List.mem_append.mp hp with hp | hp
        · exact (st p hp).frame fun b o' _ e => Heap.get?_push_of_some _ e
        · rw [List.mem_singleton.mp hp, ← sz]
          exact hS
  · rintro b s' ⟨done, rest, h', e1, e2, rfl, rfl, keep, sz, st⟩
    have : rest = [] := by
      cases rest with
      | nil => rfl
      | cons x r => exact absurd e2 (by simp)
    subst this
    rw [List.append_nil] at e1
    subst e1
    exact wpAny_pure (by simpa using hQ h' keep sz st)
  · exact ⟨[], srcs, s.heap, rfl, rfl, rfl, rfl, fun _ _ e => e, rfl, fun _ h => nomatch h⟩
theorem zip_new_run {srcs : List Src} {Q : Value → Shared → Prop} (ok : ∀ x ∈ srcs, x.ok s.heap) (hsmall : srcs.length ≤ 100)
    (hQ : ∀ h', (∀ b o, s.heap.get? b = some o → h'.get? b = some o) → ZSt (s.heap.objs.size + srcs.length + 2) (s.heap.objs.size + srcs.length) (s.heap.objs.size + srcs.length + 1) (numb s.heap.objs.size srcs) .none 0 h' →
      Q (.ref (s.heap.objs.size + srcs.length + 2)) { s with heap := h' }) :
    wpAny (model prog w) A (Builtin.«zip.__new__» ⟨.type "zip" :: srcs.map Src.val, []⟩) (fun fin s' => ∃ v, fin = .done (.ret v) ∧ Q v s') E s := by
  have hsub := sub_zip
  have hn : ∀ r : List Value, Builtin.SmallTypes.newClass "zip" ⟨.type "zip" :: r, []⟩ = pure (.type "zip", r) := by
    intro r
    unfold Builtin.SmallTypes.newClass
    have h1 : isType (.type "zip") = pure true := rfl
    simp only [h1, hsub, pure_bind, Bool.not_true, Bool.false_eq_true, if_false]
  unfold Builtin.«zip.__new__»
  rw [hn]
  refine wpAny_bind (wpAny_pure ?_)
  show wpAny _ _ (Builtin.SmallTypes.iterAll (srcs.map Src.val) >>= _) _ _ _
  refine wpAny_bind (wpAny_iterAll ok fun h₁ keep sz st => ?_)
  have hl := numb_length s.heap.objs.size srcs
  refine wpAny_bind (wpAny_newTuple ?_ (by rw [sizeLine_eq]; simp [refs]; lia))
  refine wpAny_bind (wpAny_newTuple ?_ (by rw [sizeLine_eq]; simp [refs]; lia))
  unfold Builtin.SmallTypes.newRecord
  dsimp only
  refine wpAny_bind (wpAny_newObj_type ?_ (Nat.le_of_ble_eq_true rfl))
  have z1 : (h₁.push { cls := .type "tuple", data := .seq (refs (numb s.heap.objs.size srcs)).toArray }).objs.size = s.heap.objs.size + srcs.length + 1 := by rw [Heap.size_push, sz]
  have hlt0 : ∀ {b : Addr} {o : Obj}, h₁.get? b = some o → b < s.heap.objs.size + srcs.length := fun e => by rw [← sz]; exact Heap.lt_size e
  refine wpAny_pure ⟨_, rfl, ?_⟩
  have e3 : ((h₁.push { cls := .type "tuple", data := .seq (refs (numb s.heap.objs.size srcs)).toArray }).push { cls := .type "tuple", data := .seq (List.map (fun _ => Value.none) (refs (numb s.heap.objs.size srcs))).toArray }).objs.size = s.heap.objs.size + srcs.length + 2 := by rw [Heap.size_push, z1]
  rw [e3]
  refine hQ _ (fun b o e => Heap.get?_push_of_some _ (Heap.get?_push_of_some _ (Heap.get?_push_of_some _ (keep b o e)))) ⟨?_, ?_, ⟨(refs (numb s.heap.objs.size srcs)).map fun _ => Value.none, ⟨0, ?_⟩, by simp [refs]⟩, fun p hp => (st p hp).frame fun b o _ e => Heap.get?_push_of_some _ (Heap.get?_push_of_some _ (Heap.get?_push_of_some _ e))⟩
  · rw [← e3]
    have g : ((h₁.push { cls := .type "tuple", data := .seq (refs (numb s.heap.objs.size srcs)).toArray }).push { cls := .type "tuple", data := .seq (List.map (fun _ => Value.none) (refs (numb s.heap.objs.size srcs))).toArray } |>.push { cls := .type "zip", data := .fields (Builtin.SmallTypes.ownedTupleFields ++ [Value.bool false, Value.ref h₁.objs.size, Value.ref (h₁.push { cls := .type "tuple", data := .seq (refs (numb s.heap.objs.size srcs)).toArray }).objs.size]).toArray }).get? ((h₁.push { cls := .type "tuple", data := .seq (refs (numb s.heap.objs.size srcs)).toArray }).push { cls := .type "tuple", data := .seq (List.map (fun _ => Value.none) (refs (numb s.heap.objs.size srcs))).toArray }).objs.size = some { cls := .type "zip", data := .fields (Builtin.SmallTypes.ownedTupleFields ++ [Value.bool false, Value.ref h₁.objs.size, Value.ref (h₁.push { cls := .type "tuple", data := .seq (refs (numb s.heap.objs.size srcs)).toArray }).objs.size]).toArray } := Heap.get?_push_size _ rfl
    refine g.trans ?_
    rw [z1, sz]
    rfl
  · rw [← sz]
    exact Heap.get?_push_of_some _ (Heap.get?_push_of_some _ (Heap.get?_push_size _ rfl))
  · rw [← z1]
    exact Heap.get?_push_of_some _ (Heap.get?_push_size _ rfl)
end

section
variable {prog : Program} {w : World} {A : Around} {E : Value → Shared → Prop} {s : Shared} {env : Env} {h₀ : Heap} {target : Expr} {body : List Stmt} {Q : Flow → Shared → Prop}
theorem turnsInv {I : Addr} {fp wr : List Addr} {n : Nat} {P Md : Nat → Value → Heap → Prop} {St : Nat → Heap → Prop} {ws : List (Addr × String)} {keep : Led} {m₀ : Str → Option Value} {news : Led} {hp : Heap} {tk0 : Nat}
    (W : KTurns prog w A target I fp wr n P Md St)
    (hobj : ∀ i h, St i h → ∃ its, Objs ws its ∧ ∀ p ∈ its, h.get? p.1 = some p.2)
    (hws : ∀ b ∈ ws.map (·.1), b ∈ fp ∧ h₀.get? b = none) (hwr : ∀ b ∈ wr, b ∈ ws.map (·.1))
    (hfp : ∀ b ∈ fp, b ∈ ws.map (·.1) ∨ (∃ o, (b, o) ∈ keep) ∨ ∃ o, h₀.get? b = some o) (hL : env.locals ∉ fp) (hnw : ∀ p ∈ news, p.1 ∉ wr) (hst : St 0 hp)
    (F : Fr h₀ env.locals hp m₀) (N : News h₀ env.locals hp news) (hk : ∀ p ∈ keep, p ∈ news)
    (J : Nat → (Str → Option Value) → Led → Prop) (start : J 0 m₀ news)
    (step : ∀ i m news, i < n → J i m news → ∀ v h tk, P i v h → Fr h₀ env.locals h m → AllObj ws (fun its => News h₀ env.locals h (its ++ news) →
      wpAny (model prog w) A (assign target env v) (fun _ s₂ => wpAny (model prog w) A (execs body env) (TurnP h₀ env.locals { s with heap := h, toks := tk } its (fun m' n' => (∀ p ∈ keep, p ∈ n') ∧ J (i + 1) m' n') Q) E s₂) E { s with heap := h, toks := tk }))
    (done : ∀ m news, J n m news → ∀ h tk, Fr h₀ env.locals h m → News h₀ env.locals h news → Q .next { s with heap := h, toks := tk }) :
    TurnsAt prog w A h₀ env target body Q E (.ref I) { s with heap := hp, toks := tk0 } := by
  refine ⟨I, fp, wr, n, P, Md, St, m₀, news, fun i m₁ news₁ => (∀ p ∈ keep, p ∈ news₁) ∧ J i m₁ news₁, rfl, W, hL, fun b hb => (hws b (hwr b hb)).2, hnw, hst, F, N, ⟨hk, start⟩, ?_, ?_⟩
  · intro i v m₁ news₁ h₁ tk₁ own hin hPi hJ hoff hown hget hall hst₁ F₁ N₁
    obtain ⟨hk₁, hJ⟩ := hJ
    obtain ⟨its, hits, hval⟩ := hobj (i + 1) h₁ hst₁
    have hmap := hits.map
    have N₂ : News h₀ env.locals h₁ (its ++ news₁) := fun p hp => by
      rcases List.mem_append.mp hp with hp | hp
      · have h1 : p.1 ∈ ws.map (·.1) := by rw [← hmap]; exact List.mem_map.mpr ⟨p, hp, rfl⟩
        exact N₁ _ (List.mem_append_left _ (hall p.1 (hws _ h1).1 (hws _ h1).2 p.2 (hval p hp)))
      · exact N₁ _ (List.mem_append_right _ hp)
    have fin : ∀ s₃, UnrEndW h₀ env.locals { s with heap := h₁, toks := tk₁ } its (fun m' n' => (∀ p ∈ keep, p ∈ n') ∧ J (i + 1) m' n') s₃ →
        LoopStepU h₀ env.locals wr own (fun m' n' => (∀ p ∈ keep, p ∈ n') ∧ J (i + 1) m' n') { s with heap := h₁, toks := tk₁ } .next s₃ := by
      rintro s₃ ⟨h', tk, m', news', e, F', N', ho, hk', r⟩
      refine ⟨rfl, h', tk, m', news', e, F', ?_, ?_, hk', r⟩
      · rintro ⟨pa, po⟩ hp
        rcases List.mem_append.mp hp with hp | hp
        · have h2 : h₁.get? pa = some po := hget _ hp
          rcases hfp pa (hown _ hp) with h3 | ⟨o, h3⟩ | ⟨o, h3⟩
          · have h4 : pa ∈ its.map (·.1) := by rw [hmap]; exact h3
            obtain ⟨⟨qa, qo⟩, hq, hqe⟩ := List.mem_map.mp h4
            have hqe' : qa = pa := hqe
            subst hqe'
            have h5 : h₁.get? qa = some qo := hval _ hq
            have h6 : qo = po := Option.some.inj (h5.symm.trans h2)
            subst h6
            exact N' _ (List.mem_append_left _ hq)
          · have h4 : h₁.get? pa = some o := (N₁ _ (List.mem_append_right _ (hk₁ _ h3))).1
            have h6 : o = po := Option.some.inj (h4.symm.trans h2)
            subst h6
            exact N' _ (List.mem_append_right _ (hk' _ h3))
          · have h4 := (N₁ _ (List.mem_append_left _ hp)).2.2
            have h4' : h₀.get? pa = none := h4
            rw [h4'] at h3; cases h3
        · exact N' _ (List.mem_append_right _ hp)
      · intro p hp hI
        have h4 : p.1 ∈ its.map (·.1) := by rw [hmap]; exact hwr _ hI
        obtain ⟨q, hq, hqe⟩ := List.mem_map.mp h4
        exact ho p hp q hq hqe.symm
    refine wpAny_mono ((step i m₁ news₁ hin hJ v h₁ tk₁ hPi F₁).at hits N₂) (fun _ s₂ h₂ => wpAny_mono h₂ (fun f s₃ p => ?_) fun _ _ e => e) fun _ _ e => e
    cases f with
    | ret v => exact .ret p
    | brk => exact .brk p
    | next => exact .next (fin _ p)
    | cont => exact .cont (fin _ p)
  · intro h' tk m' news' F' N' _ hJ
    exact done m' news' hJ.2 h' tk F' N'

theorem iter_strTurns {x : Str} {t : Tok} {nm : Str} {px : Pos} {m₀ : Str → Option Value} {news : Led} (hh : A.handled = none) (F : Fr h₀ env.locals s.heap m₀) (N : News h₀ env.locals s.heap news) (ha : x.cps.all (· < 128) = true)
    (J : (Str → Option Value) → Nat → (Str → Option Value) → Led → Prop) (start : J m₀ 0 m₀ news)
    (step : ∀ I, (∀ p ∈ news, p.1 < I) → ∀ i m news c u, x.cps[i]? = some c → J m₀ i m news → ∀ h tk, Fr h₀ env.locals h m → AllObj [(I, "str_ascii_iterator")] (fun its => News h₀ env.locals h (its ++ news) →
      wpAny (model prog w) A (assign (.Name nm px) env (.str ⟨#[c]⟩ u)) (fun _ s₂ => wpAny (model prog w) A (execs body env) (TurnP h₀ env.locals { s with heap := h, toks := tk } its (fun m' n' => (∀ p ∈ ([] : Led), p ∈ n') ∧ J m₀ (i + 1) m' n') Q) E s₂) E { s with heap := h, toks := tk }))
    (done : ∀ m news, J m₀ x.cps.size m news → ∀ h tk, Fr h₀ env.locals h m → News h₀ env.locals h news → Q .next { s with heap := h, toks := tk }) :
    wpAny (model prog w) A (pyIter (.str x t)) (fun it s₂ => TurnsAt prog w A h₀ env (.Name nm px) body Q E it s₂) E s := by
  refine wpAny_pyIter_ascii ha ?_
  have W := Walks.strAscii (prog := prog) (w := w) (A := A) hh s.heap.objs.size x t
  refine turnsInv (tk0 := s.toks) (ws := [(s.heap.objs.size, "str_ascii_iterator")]) (keep := []) (KTurns.ofWalks W fun i v s Q E st q => wpAny_pure q) ?_ ?_ ?_ ?_ ?_ ?_ ?_ (F.push _) (fun p hp => ⟨Heap.get?_push_of_some _ (N p hp).1, (N p hp).2⟩) (fun _ h => nomatch h) (J m₀) start ?_ done
  · intro i h st
    obtain ⟨it, hit, hic, _⟩ := st
    exact ⟨[(s.heap.objs.size, it)], ⟨⟨rfl, hic⟩, trivial⟩, fun p hp => by rw [List.mem_singleton.mp hp]; exact hit⟩
  · intro b hb
    have hb' : b = s.heap.objs.size := by simpa using hb
    rw [hb']
    exact ⟨List.mem_cons_self .., next_is_new F⟩
  · intro b hb
    simpa using hb
  · intro b hb
    exact .inl (by simpa using hb)
  · intro hI
    exact absurd F.ns.lt ((List.mem_singleton.mp hI) ▸ Nat.lt_irrefl _)
  · intro p hp hI
    exact absurd (Heap.lt_size (N p hp).1) ((List.mem_singleton.mp hI) ▸ Nat.lt_irrefl _)
  · exact ⟨_, Heap.get?_push_size _ rfl, rfl, rfl⟩
  · rintro i m news' hi hJ v h tk ⟨c, u, hc, rfl⟩ F'
    exact step _ (fun p hp => Heap.lt_size (N p hp).1) i m news' c u hc hJ h tk F'
end

def zws (I : Addr) (srcs : List Src) : List (Addr × String) :=
  (I + srcs.length + 2, "zip") :: (I + srcs.length, "tuple") :: (I + srcs.length + 1, "tuple") :: (numb I srcs).map fun p => (p.1, p.2.cls)
theorem objs_of {h : Heap} : ∀ {its : List (Addr × Src)}, (∀ p ∈ its, ∃ o : Obj, h.get? p.1 = some o ∧ o.cls = .type p.2.cls) → ∃ l : Led, Objs (its.map fun p => (p.1, p.2.cls)) l ∧ ∀ p ∈ l, h.get? p.1 = some p.2
  | [], _ => ⟨[], trivial, fun _ h => nomatch h⟩
  | q :: r, hx => by
    obtain ⟨l, a, b⟩ := objs_of fun p hp => hx p (.tail _ hp)
    obtain ⟨o, e, c⟩ := hx q (.head _)
    refine ⟨(q.1, o) :: l, ⟨⟨rfl, c⟩, a⟩, fun p hp => ?_⟩
    rcases List.mem_cons.mp hp with rfl | hp
    · exact e
    · exact b p hp
section
variable {prog : Program} {w : World} {A : Around} {E : Value → Shared → Prop} {s : Shared} {env : Env} {h₀ : Heap} {body : List Stmt} {Q : Flow → Shared → Prop}
theorem zipG_turns {elts : List Expr} {k : Nat} {pos : Pos} {args : List Value} {x : Src} {r : List Src} {keep news : Led} {m₀ : Str → Option Value} (hh : A.handled = none) (hargs : args = (x :: r).map Src.val)
    (hct : checkTypeCall "zip" ⟨args, []⟩ = pure ()) (hcn : checkBuiltinCall "zip.__new__" ⟨.type "zip" :: args, []⟩ = pure ()) (hok : ∀ obj, argsOk "object.__init__" ⟨obj :: args, []⟩)
    (F : Fr h₀ env.locals s.heap m₀) (N : News h₀ env.locals s.heap news) (hk : ∀ p ∈ keep, p ∈ news)
    (ok : ∀ y ∈ x :: r, y.ok s.heap) (hsmall : (x :: r).length ≤ 100) (hn : ∀ y ∈ x :: r, x.n ≤ y.n) (hfp : ∀ y ∈ x :: r, ∀ b ∈ y.fp, (∃ o, (b, o) ∈ keep) ∨ ∃ o, h₀.get? b = some o)
    (J : (Str → Option Value) → Nat → (Str → Option Value) → Led → Prop) (start : J m₀ 0 m₀ news)
    (step : ∀ I, (∀ p ∈ news, p.1 < I) → ∀ i m news T vals, i < x.n → Draws i (x :: r) vals → J m₀ i m news → ∀ h tk, IsTup h T vals.toArray → Fr h₀ env.locals h m → AllObj (zws I (x :: r)) (fun its => News h₀ env.locals h (its ++ news) →
      wpAny (model prog w) A (assign (.Tuple elts k pos) env (.ref T)) (fun _ s₂ => wpAny (model prog w) A (execs body env) (TurnP h₀ env.locals { s with heap := h, toks := tk } its (fun m' n' => (∀ p ∈ keep, p ∈ n') ∧ J m₀ (i + 1) m' n') Q) E s₂) E { s with heap := h, toks := tk }))
    (done : ∀ m news, J m₀ x.n m news → ∀ h tk, Fr h₀ env.locals h m → News h₀ env.locals h news → Q .next { s with heap := h, toks := tk }) :
    wpAny (model prog w) A (call (.type "zip") args) (fun xv s₁ => wpAny (model prog w) A (pyIter xv) (fun it s₂ => TurnsAt prog w A h₀ env (.Tuple elts k pos) body Q E it s₂) E s₁) E s := by
  subst hargs
  refine callType_new PySem.F.called_zip (by decide) hct hcn hok PySem.F.entry_zip_new (S := fun _ R s₁ => s₁ = s ∧ ∀ h', (∀ b o, s.heap.get? b = some o → h'.get? b = some o) → ZSt (s.heap.objs.size + (x :: r).length + 2) (s.heap.objs.size + (x :: r).length) (s.heap.objs.size + (x :: r).length + 1) (numb s.heap.objs.size (x :: r)) .none 0 h' → R (.ok (.ret (.ref (s.heap.objs.size + (x :: r).length + 2)))) { s with heap := h' }) ?_ ?_
  · refine .of_wp fun prog w A R s₁ h => ?_
    obtain ⟨rfl, h⟩ := h
    exact zip_new_run ok hsmall h
  refine ⟨rfl, fun h' keepH zst => ?_⟩
  have lt2 : ∀ {b : Addr} {o : Obj}, s.heap.get? b = some o → b < s.heap.objs.size := fun e => Heap.lt_size e
  have hn1 : (x :: r).length = r.length + 1 := rfl
  refine ⟨⟨_, zst.z, rfl⟩, ?_⟩
  refine wpAny_pyIter_zip zst.z ?_
  have hfpL : ∀ p ∈ numb s.heap.objs.size (x :: r), ∀ b ∈ p.2.fp, b < s.heap.objs.size ∧ b ≠ env.locals := by
    intro p hp b hb
    obtain ⟨_, _, h3⟩ := numb_mem hp
    rcases hfp p.2 h3 b hb with ⟨o, ho⟩ | ⟨o, ho⟩
    · have := N _ (hk _ ho)
      exact ⟨lt2 this.1, this.2.1⟩
    · exact ⟨lt2 (F.keep _ _ ho), fun e => Nat.ne_of_lt (Nat.lt_of_lt_of_le (Heap.lt_size ho) F.above) e⟩
  have D : ZA (s.heap.objs.size + (x :: r).length + 2) (s.heap.objs.size + (x :: r).length) (s.heap.objs.size + (x :: r).length + 1) (numb s.heap.objs.size (x :: r)) := by
    refine ⟨?_, ?_, ?_, numb_pair _ _, fun p hp => ?_⟩
    · exact Nat.ne_of_lt (by lia)
    · exact Nat.ne_of_lt (by lia)
    · exact Nat.ne_of_lt (by lia)
    · obtain ⟨h1, h2, h3⟩ := numb_mem hp
      refine ⟨Nat.ne_of_lt (Nat.lt_of_lt_of_le h2 (by lia)), Nat.ne_of_lt (Nat.lt_of_lt_of_le h2 (by lia)), Nat.ne_of_lt (Nat.lt_of_lt_of_le h2 (Nat.le_refl _)), fun b hb => ?_⟩
      have hb' := (hfpL p hp b hb).1
      refine ⟨Nat.ne_of_lt (Nat.lt_of_lt_of_le hb' (by lia)), Nat.ne_of_lt (Nat.lt_of_lt_of_le hb' (by lia)), fun q hq => Nat.ne_of_lt (Nat.lt_of_lt_of_le hb' (numb_mem hq).1)⟩
  have hcons : numb s.heap.objs.size (x :: r) = (s.heap.objs.size, x) :: numb (s.heap.objs.size + 1) r := rfl
  have hmap : ∀ (a : Nat) (l : List Src), (numb a l).map (·.2) = l := by
    intro a l
    induction l generalizing a with
    | nil => rfl
    | cons y l ih => show y :: (numb (a + 1) l).map (·.2) = y :: l; rw [ih]
  have W := WalksU.zipG (prog := prog) (w := w) (A := A) hh (its := numb (s.heap.objs.size + 1) r) (q := (s.heap.objs.size, x)) D (by show (numb s.heap.objs.size (x :: r)).length ≤ 100; rw [numb_length]; exact hsmall) (fun p hp => hn p.2 (numb_mem (l := x :: r) hp).2.2)
  rw [← hcons] at W
  have hLs : env.locals < s.heap.objs.size := F.ns.lt
  have F' := F.keeps keepH
  have N' := News.grown N keepH
  have wsNew : ∀ b ∈ (zws s.heap.objs.size (x :: r)).map (·.1), s.heap.objs.size ≤ b := by
    intro b hb
    simp only [zws, List.map_cons, List.mem_cons, List.map_map] at hb
    rcases hb with rfl | rfl | rfl | hb
    · lia
    · lia
    · lia
    · obtain ⟨p, hp, rfl⟩ := List.mem_map.mp hb
      exact (numb_mem hp).1
  refine turnsInv (tk0 := s.toks) (ws := zws s.heap.objs.size (x :: r)) (keep := keep) (KTurns.ofWalksU W.bound) ?_ ?_ ?_ ?_ ?_ ?_ zst F' N' hk (J m₀) start ?_ done
  · intro i h st
    obtain ⟨old, ⟨n, ho⟩, _⟩ := st.tov
    obtain ⟨l, a, b⟩ := objs_of fun p hp => (st.st p hp).here
    have e1 : ∃ o : Obj, h.get? (s.heap.objs.size + (x :: r).length + 2) = some o ∧ o.cls = .type "zip" := ⟨_, st.z, rfl⟩
    have e2 : ∃ o : Obj, h.get? (s.heap.objs.size + (x :: r).length) = some o ∧ o.cls = .type "tuple" := ⟨_, st.ti, rfl⟩
    have e3 : ∃ o : Obj, h.get? (s.heap.objs.size + (x :: r).length + 1) = some o ∧ o.cls = .type "tuple" := ⟨_, ho, rfl⟩
    obtain ⟨q1, g1, k1⟩ := e1
    obtain ⟨q2, g2, k2⟩ := e2
    obtain ⟨q3, g3, k3⟩ := e3
    refine ⟨(_, q1) :: (_, q2) :: (_, q3) :: l, ⟨⟨rfl, k1⟩, ⟨rfl, k2⟩, ⟨rfl, k3⟩, a⟩, fun p hp => ?_⟩
    rcases List.mem_cons.mp hp with rfl | hp
    · exact g1
    rcases List.mem_cons.mp hp with rfl | hp
    · exact g2
    rcases List.mem_cons.mp hp with rfl | hp
    · exact g3
    exact b p hp
  · intro b hb
    refine ⟨?_, ktu_new F (wsNew b hb)⟩
    simp only [zws, List.map_cons, List.mem_cons, List.map_map] at hb
    rcases hb with rfl | rfl | rfl | hb
    · simp [zfp]
    · simp [zfp]
    · simp [zfp]
    · exact List.mem_append_right _ (List.mem_append_left _ hb)
  · intro b hb
    rcases List.mem_append.mp hb with hb | hb
    · have hb' : b = s.heap.objs.size + (x :: r).length + 2 ∨ b = s.heap.objs.size + (x :: r).length + 1 := by simpa using hb
      rcases hb' with rfl | rfl <;> simp [zws]
    · simp only [zws, List.map_cons, List.mem_cons, List.map_map]
      exact .inr (.inr (.inr hb))
  · intro b hb
    rcases List.mem_append.mp hb with hb | hb
    · have hb' : b = s.heap.objs.size + (x :: r).length + 2 ∨ b = s.heap.objs.size + (x :: r).length ∨ b = s.heap.objs.size + (x :: r).length + 1 := by simpa using hb
      rcases hb' with rfl | rfl | rfl <;> (left; simp [zws])
    rcases List.mem_append.mp hb with hb | hb
    · left
      simp only [zws, List.map_cons, List.mem_cons, List.map_map]
      exact .inr (.inr (.inr hb))
    · obtain ⟨p, hp, hb⟩ := List.mem_flatMap.mp hb
      exact .inr (hfp p.2 (numb_mem hp).2.2 b hb)
  · intro hI
    rcases List.mem_append.mp hI with hb | hb
    · have hb' : env.locals = s.heap.objs.size + (x :: r).length + 2 ∨ env.locals = s.heap.objs.size + (x :: r).length ∨ env.locals = s.heap.objs.size + (x :: r).length + 1 := by simpa using hb
      rcases hb' with e | e | e
      · exact Nat.ne_of_lt (Nat.lt_of_lt_of_le hLs (by lia)) e
      · exact Nat.ne_of_lt (Nat.lt_of_lt_of_le hLs (by lia)) e
      · exact Nat.ne_of_lt (Nat.lt_of_lt_of_le hLs (by lia)) e
    rcases List.mem_append.mp hb with hb | hb
    · obtain ⟨p, hp, e⟩ := List.mem_map.mp hb
      exact Nat.ne_of_lt (Nat.lt_of_lt_of_le hLs (numb_mem hp).1) e.symm
    · obtain ⟨p, hp, hb⟩ := List.mem_flatMap.mp hb
      exact (hfpL p hp _ hb).2 rfl
  · intro p hp hI
    have hlp := Heap.lt_size (N p hp).1
    rcases List.mem_append.mp hI with hb | hb
    · have hb' : p.1 = s.heap.objs.size + (x :: r).length + 2 ∨ p.1 = s.heap.objs.size + (x :: r).length + 1 := by simpa using hb
      rcases hb' with e | e
      · exact Nat.ne_of_lt (Nat.lt_of_lt_of_le hlp (by lia)) e
      · exact Nat.ne_of_lt (Nat.lt_of_lt_of_le hlp (by lia)) e
    · obtain ⟨q, hq, e⟩ := List.mem_map.mp hb
      exact Nat.ne_of_lt (Nat.lt_of_lt_of_le hlp (numb_mem hq).1) e.symm
  · rintro i m news' hi hJ v h tk ⟨T, vals, rfl, ⟨_, hd⟩, hT⟩ F'
    rw [hmap] at hd
    exact step _ (fun p hp => Heap.lt_size (N p hp).1) i m news' T vals.toList hi hd hJ h tk hT F'
end

theorem zws2 (I : Addr) (x y : Src) : zws I [x, y] = [(I + 4, "zip"), (I + 2, "tuple"), (I + 3, "tuple"), (I, x.cls), (I + 1, y.cls)] := rfl
theorem clsNe {h₀ h : Heap} {L : Addr} {l : Led} {p q : Addr × Obj} (N : News h₀ L h l) (hp : p ∈ l) (hq : q ∈ l) (hc : p.2.cls ≠ q.2.cls) : p.1 ≠ q.1 := fun e => by
  have h1 := (N p hp).1
  have h2 := (N q hq).1
  rw [e] at h1
  exact hc (congrArg Obj.cls (Option.some.inj (h1.symm.trans h2)))
theorem clsOff {h₀ h : Heap} {L : Addr} {l ps qs : Led} (N : News h₀ L h l) (hp : ∀ p ∈ ps, p ∈ l) (hq : ∀ q ∈ qs, q ∈ l) (hc : ∀ p ∈ ps, p.2.cls = .type "list") (hd : ∀ q ∈ qs, q.2.cls ≠ .type "list") : ∀ p ∈ ps, ∀ q ∈ qs, p.1 ≠ q.1 :=
  fun p a q b => clsNe N (hp p a) (hq q b) (by rw [hc p a]; exact (hd q b).symm)
/- lists behind references -/
inductive Rfs (u : Led) : List Value → List (List Int) → Prop
  | nil : Rfs u [] []
  | cons {a : Addr} {vs : List Value} {e : Nat} {ks : List Int} {rs : List Value} {kss : List (List Int)} (hm : (a, W.listOf vs.toArray e) ∈ u) (hi : IntsAre vs ks) (h : Rfs u rs kss) : Rfs u (.ref a :: rs) (ks :: kss)
theorem Rfs.length {u : Led} : ∀ {rs : List Value} {kss : List (List Int)}, Rfs u rs kss → rs.length = kss.length
  | _, _, .nil => rfl
  | _, _, .cons _ _ h => congrArg (· + 1) h.length
theorem Rfs.more {u u' : Led} (hs : ∀ p ∈ u, p ∈ u') : ∀ {rs : List Value} {kss : List (List Int)}, Rfs u rs kss → Rfs u' rs kss
  | _, _, .nil => .nil
  | _, _, .cons hm hi h => .cons (hs _ hm) hi (h.more hs)
theorem Rfs.snoc {u : Led} {a : Addr} {vs : List Value} {e : Nat} {ks : List Int} (hm : (a, W.listOf vs.toArray e) ∈ u) (hi : IntsAre vs ks) : ∀ {rs : List Value} {kss : List (List Int)}, Rfs u rs kss → Rfs u (rs ++ [.ref a]) (kss ++ [ks])
  | _, _, .nil => .cons hm hi .nil
  | _, _, .cons hm' hi' h => .cons hm' hi' (h.snoc hm hi)
theorem intsGetK : ∀ {vs : List Value} {ks : List Int} {i : Nat} {v : Value}, IntsAre vs ks → vs[i]? = some v → ∃ k t, ks[i]? = some k ∧ v = Value.int k t
  | _, _, _, _, .nil, h => by simp at h
  | _, _, 0, _, .cons k t _, h => ⟨k, t, rfl, by simpa using h.symm⟩
  | _, _, i + 1, _, .cons _ _ r, h => by
    obtain ⟨k, t, a, b⟩ := intsGetK r (i := i) (by simpa using h)
    exact ⟨k, t, by simpa using a, b⟩

def Stop (P : Prop) : Prop := P
theorem stopHere {P : Prop} (h : Stop P) : P := h
theorem Stop.go {P : Prop} (h : P) : Stop P := h
section
variable {prog : Program} {w : World} {A : Around} {E : Value → Shared → Prop} {s : Shared} {h₀ : Heap} {L : Addr} {m : Str → Option Value} {env : Env}
open LCg in
/- a comprehension whose element makes nothing that stays -/
theorem comp_map {elt : Expr} {x : Str} {scope : Scope} {cl : List (Str × Addr)} {S : Led → Prop} {P : Nat → Value → Prop} {Fin : List Value → Led → Prop} {news : Led} (Rel : Nat → Value → Prop) (hS : S news)
    {n : Nat} (fin : ∀ ys, ys.length = n → (∀ i y, ys[i]? = some y → Rel i y) → Fin ys news)
    (step : ∀ i v I oI C oC D m₂ h tk (E' : Value → Shared → Prop) ys, P i v → NsObj oC m₂ → m₂ x = some v → Fr h₀ L h m → News h₀ L h ((I, oI) :: (C, oC) :: (D, lst ys) :: news) → Off3 I C D news → ((@Ne Nat I C) ∧ (@Ne Nat I D) ∧ (@Ne Nat C D)) →
      wpAny (model prog w) A (eval elt (compEnvC scope cl C env)) (fun y s₂ => ∃ h' tk', s₂ = { s with heap := h', toks := tk' } ∧ Fr h₀ L h' m ∧ News h₀ L h' ((I, oI) :: (C, oC) :: (D, lst ys) :: news) ∧ Rel i y) E' { s with heap := h, toks := tk }) :
    ∀ k i ys, i + k = n → ys.length = i → (∀ j y, ys[j]? = some y → Rel j y) → CompRest prog w A h₀ L m env elt x scope cl s S P Fin k i ys news
  | 0, i, ys, hn, hl, hr => fin ys (hl.trans hn) hr
  | k + 1, i, ys, hn, hl, hr => CompRest.succ fun v I oI C oC D m₂ h tk E' hP hC hx F N off ne => by
    refine wpAny_mono (step i v I oI C oC D m₂ h tk E' ys hP hC hx F N off ne) (fun y s₂ hy => ?_) fun _ _ e => e
    obtain ⟨h', tk', rfl, F', N', hrel⟩ := hy
    refine ⟨h', tk', news, rfl, F', N', off, hS, comp_map Rel hS fin step k (i + 1) (ys ++ [y]) (by lia) (by simp [hl]) fun j z hz => ?_⟩
    rcases Nat.lt_or_ge j i with hj | hj
    · rw [List.getElem?_append_left (by lia)] at hz
      exact hr j z hz
    · rw [List.getElem?_append_right (by lia)] at hz
      have : j - ys.length = 0 := by
        rcases Nat.eq_zero_or_pos (j - ys.length) with h | h
        · exact h
        · rw [List.getElem?_eq_none (by simp; lia)] at hz; cases hz
      rw [this] at hz
      have e1 : y = z := by simpa using hz
      have e2 : j = i := by lia
      rw [← e1, e2]
      exact hrel
end
/- a list of texts -/
inductive Txts : List Value → List Str → Prop
  | nil : Txts [] []
  | cons (x : Str) (t : Tok) {vs : List Value} {xs : List Str} (h : Txts vs xs) : Txts (.str x t :: vs) (x :: xs)
theorem Txts.length : ∀ {vs : List Value} {xs : List Str}, Txts vs xs → vs.length = xs.length
  | _, _, .nil => rfl
  | _, _, .cons _ _ h => congrArg (· + 1) h.length
theorem Txts.append : ∀ {vs : List Value} {xs : List Str} {vs' : List Value} {xs' : List Str}, Txts vs xs → Txts vs' xs' → Txts (vs ++ vs') (xs ++ xs')
  | _, _, _, _, .nil, h => h
  | _, _, _, _, .cons x t h, h' => .cons x t (h.append h')
theorem Txts.get : ∀ {vs : List Value} {xs : List Str} {i : Nat} {v : Value}, Txts vs xs → vs[i]? = some v → ∃ x t, xs[i]? = some x ∧ v = Value.str x t
  | _, _, _, _, .nil, h => by simp at h
  | _, _, 0, _, .cons x t _, h => ⟨x, t, rfl, by simpa using h.symm⟩
  | _, _, i + 1, _, .cons _ _ r, h => by
    obtain ⟨x, t, a, b⟩ := r.get (i := i) (by simpa using h)
    exact ⟨x, t, by simpa using a, b⟩
theorem Txts.of : ∀ {ys : List Value} {xs : List Str}, ys.length = xs.length → (∀ (i : Nat) (y : Value), ys[i]? = some y → ∃ x t, xs[i]? = some x ∧ y = Value.str x t) → Txts ys xs
  | [], [], _, _ => .nil
  | [], _ :: _, h, _ => nomatch h
  | _ :: _, [], h, _ => nomatch h
  | y :: ys, x :: xs, hl, h => by
    obtain ⟨x', t, a, rfl⟩ := h 0 y rfl
    have e : x = x' := by simpa using a
    subst e
    exact .cons _ t (Txts.of (by simpa using hl) fun i z hz => by
      obtain ⟨q, t, a, b⟩ := h (i + 1) z (by simpa using hz)
      exact ⟨q, t, by simpa using a, b⟩)
/- the reader's state -/
structure PS where
  res : List Str
  part : Str
  esc : Bool
  quo : Bool
def isC (c : Nat) (z : Str) : Bool := ((⟨#[c]⟩ : Str) == z)
def PS.step (p : PS) (c : Nat) : PS :=
  if p.esc then { p with part := p.part ++ ⟨#[c]⟩, esc := false }
  else if p.quo then
    if isC c (Str.ofString "\\") then { p with esc := true }
    else if isC c (Str.ofString "\"") then { p with quo := false, part := p.part ++ ⟨#[c]⟩ }
    else { p with part := p.part ++ ⟨#[c]⟩ }
  else if isC c (Str.ofString ",") then { p with res := p.res ++ [p.part], part := Str.ofString "" }
  else if isC c (Str.ofString "\"") then { p with quo := true, part := p.part ++ ⟨#[c]⟩ }
  else { p with part := p.part ++ ⟨#[c]⟩ }
theorem isC_eq (c k : Nat) {z : Str} (hz : z = ⟨#[k]⟩) : isC c z = decide (c = k) := by
  subst hz
  unfold isC
  by_cases h : c = k
  · subst h; simp
  · have : (⟨#[c]⟩ : Str) ≠ ⟨#[k]⟩ := fun e => h (by have := congrArg Str.cps e; simpa using this)
    rw [decide_eq_false h]
    exact beq_eq_false_iff_ne.mpr this
theorem isC92 (c : Nat) : isC c (Str.ofString "\\") = decide (c = 92) := isC_eq c 92 (by rfl)
theorem isC34 (c : Nat) : isC c (Str.ofString "\"") = decide (c = 34) := isC_eq c 34 (by rfl)
theorem isC44 (c : Nat) : isC c (Str.ofString ",") = decide (c = 44) := isC_eq c 44 (by rfl)
def PS.run (p : PS) (cs : List Nat) : PS := cs.foldl PS.step p
def PS.fin (p : PS) : List Str := if p.part.cps.size = 0 then p.res else p.res ++ [p.part]
def PS.start : PS := ⟨[], Str.ofString "", false, false⟩
theorem PS.step_part (p : PS) (c : Nat) : (p.step c).part.cps.size ≤ p.part.cps.size + 1 := by
  have h : (p.part ++ (⟨#[c]⟩ : Str)).cps.size = p.part.cps.size + 1 := by
    show (p.part.cps ++ #[c]).size = _
    simp
  unfold PS.step
  repeat' split
  all_goals first | (show (p.part ++ _).cps.size ≤ _; lia) | (show p.part.cps.size ≤ _; lia) | (show 0 ≤ _; lia)
theorem Txts.append1 {vs : List Value} {xs : List Str} (h : Txts vs xs) (x : Str) (t : Tok) : Txts (vs ++ [.str x t]) (xs ++ [x]) := h.append (.cons x t .nil)
theorem PS.step_small {N : Nat} (p : PS) (c : Nat) (h : ∀ y ∈ p.res, y.cps.size ≤ N) (hp : p.part.cps.size ≤ N) : ∀ y ∈ (p.step c).res, y.cps.size ≤ N := by
  have key : (p.step c).res = p.res ∨ (p.step c).res = p.res ++ [p.part] := by
    unfold PS.step
    repeat' split
    all_goals first | exact .inl rfl | exact .inr rfl
  intro y hy
  rcases key with e | e
  · rw [e] at hy; exact h y hy
  · rw [e] at hy
    rcases List.mem_append.mp hy with hy | hy
    · exact h y hy
    · rw [List.mem_singleton.mp hy]; exact hp
theorem PS.run_small (N : Nat) : ∀ (cs : List Nat) (p : PS), (∀ y ∈ p.res, y.cps.size ≤ N) → p.part.cps.size + cs.length ≤ N → ∀ y ∈ (p.run cs).res, y.cps.size ≤ N
  | [], _, h, _ => h
  | c :: cs, p, h, hp => by
    have h1 := PS.step_part p c
    have hp' : p.part.cps.size + (cs.length + 1) ≤ N := hp
    exact PS.run_small N cs (p.step c) (p.step_small c h (by lia)) (by lia)
abbrev sgs (x : Str) : List Str := x.cps.toList.map fun c => ⟨#[c]⟩
section
variable {prog : Program} {w : World} {A : Around} {E : Value → Shared → Prop} {s : Shared} {h₀ : Heap} {L : Addr} {m : Str → Option Value} {Q : Value → Shared → Prop}
theorem list_strK {x : Str} {t : Tok} {news : Led} (hh : A.handled = none) (F : Fr h₀ L s.heap m) (N : News h₀ L s.heap news)
    (h : ∀ S h' tk (ys : List Value) ep, Fr h₀ L h' m → News h₀ L h' ((S, W.listOf ys.toArray ep) :: news) → (∀ p ∈ news, p.1 < S) → Txts ys (sgs x) → Q (.ref S) { s with heap := h', toks := tk }) (hsz : x.cps.size ≤ sizeLine) :
    wpAny (model prog w) A (call (.type "list") [.str x t]) Q E s := by
  refine call_list_str hh x t (hn := hsz) fun h' tk acc' c' hk hS' hacc => ?_
  refine h _ h' tk acc'.toList c' (F.keeps hk) ?_ (fun p hp => Heap.lt_size (N p hp).1) ?_
  · intro p hp
    rcases List.mem_cons.mp hp with rfl | hp
    · refine ⟨by simpa using hS', fun e => ?_, ?_⟩
      · have e' : s.heap.objs.size = L := e
        exact absurd F.ns.lt (by rw [e']; exact Nat.lt_irrefl _)
      · cases e : h₀.get? s.heap.objs.size with
        | none => rfl
        | some o => exact absurd (Heap.lt_size (F.keep _ _ e)) (Nat.lt_irrefl _)
    · exact ⟨hk _ _ (N p hp).1, (N p hp).2⟩
  · refine Txts.of (by simp [hacc.1]) fun i y hy => ?_
    obtain ⟨c, u, hc, rfl⟩ := hacc.2 i y (by simpa using hy)
    exact ⟨⟨#[c]⟩, u, by simp [sgs, hc], rfl⟩
theorem add_txts {a b : Addr} {vs ws : List Value} {xs ys : List Str} {news : Led} (F : Fr h₀ L s.heap m) (N : News h₀ L s.heap news) (ha : s.heap.IsList a vs.toArray) (hb : s.heap.IsList b ws.toArray) (hx : Txts vs xs) (hy : Txts ws ys)
    (h : ∀ D zs h', Txts zs (xs ++ ys) → Fr h₀ L h' m → News h₀ L h' ((D, W.listOf (List.toArray zs) 0) :: news) → (∀ p ∈ news, p.1 < D) → Q (.ref D) { s with heap := h' })
    (hz : xs.length + ys.length ≤ sizeLine) : wpAny (model prog w) A (binaryOp .Add (.ref a) (.ref b)) Q E s :=
  kmk_add_lit (zs := vs ++ ws) F N ha hb (by simp) (fun D h' => h D _ h' (hx.append hy)) (by simpa [hx.length, hy.length] using hz)
end
def shM : Int → List Str → List Int
  | _, [] => []
  | run, z :: r => if z == Str.ofString "\\" then 1 :: shM (run + 1) r else run.fmod 2 :: shM 0 r
theorem shM_length : ∀ (run : Int) (zs : List Str), (shM run zs).length = zs.length
  | _, [] => rfl
  | run, z :: r => by
    unfold shM
    split <;> simp [shM_length]

theorem shM_t {run : Int} {z : Str} {r : List Str} {done ms : List Int} (h : (z == Str.ofString "\\") = true) (e : done ++ shM run (z :: r) = ms) : (done ++ [1]) ++ shM (run + 1) r = ms := by
  rw [← e, shM, if_pos h]; simp
theorem shM_f {run : Int} {z : Str} {r : List Str} {done ms : List Int} (h : (z == Str.ofString "\\") = false) (e : done ++ shM run (z :: r) = ms) : (done ++ [run.fmod 2]) ++ shM 0 r = ms := by
  rw [← e, shM, if_neg (by rw [h]; exact Bool.false_ne_true)]; simp
theorem shM_range : ∀ (run : Int) (zs : List Str), ∀ y ∈ shM run zs, 0 ≤ y ∧ y < 2
  | _, [], _, h => nomatch h
  | run, z :: r, y, h => by
    unfold shM at h
    split at h
    · rcases List.mem_cons.mp h with rfl | h
      · exact ⟨by decide, by decide⟩
      · exact shM_range _ r y h
    · rcases List.mem_cons.mp h with rfl | h
      · exact ⟨Int.fmod_nonneg_of_pos _ (by decide), Int.fmod_lt_of_pos _ (by decide)⟩
      · exact shM_range _ r y h
theorem updAt {d : Addr} {o : Obj} (o' : Obj) : ∀ {l : Led} {g : Obj → Led}, UpdF d o l g → Upd d o o' l (g o')
  | _, _, .head h => .head h
  | _, _, .tail h t => .tail h (updAt o' t)
section
variable {prog : Program} {w : World} {A : Around} {E : Value → Shared → Prop} {s : Shared} {h₀ : Heap} {L : Addr} {m : Str → Option Value} {Q : Value → Shared → Prop}
theorem extend_ints {D b : Addr} {vs ws : List Value} {n n2 : Nat} {news : Led} {g : Obj → Led} (F : Fr h₀ L s.heap m) (N : News h₀ L s.heap news) (hb : (b, W.listOf ws.toArray n2) ∈ news) (U : UpdF D (W.listOf vs.toArray n) news g)
    (hv : vs.length ≤ 1000) (hw : ws.length ≤ 1000)
    (h : ∀ h' ep, Fr h₀ L h' m → News h₀ L h' (g (W.listOf (vs ++ ws).toArray ep)) → Q .none { s with heap := h' }) : wpAny (model prog w) A (call (.builtin "list.extend") [.ref D, .ref b]) Q E s := by
  have hno : ¬(!vs.toArray.isEmpty && Builtin.List.listTooLong (vs.toArray.size + ws.toArray.size)) = true := by
    have : Builtin.List.listTooLong (vs.toArray.size + ws.toArray.size) = false := by
      simp [Builtin.List.listTooLong, sizeLine_eq]; lia
    rw [this]; simp
  cases ws with
  | nil =>
    refine kxn_extend F N hb rfl (updAt _ U) hno (by rw [sizeLine_eq]; simp; lia) (by rw [sizeLine_eq]; simp; lia) fun h' F' N' => h h' n F' ?_
    rw [List.append_nil]; exact N'
  | cons y r =>
    exact kl_extend (l := vs ++ y :: r) F N hb (by simp) (by simp) (updAt _ U) hno (by rw [sizeLine_eq]; simp; lia) (by rw [sizeLine_eq]; simp at hw ⊢; lia) fun h' F' N' => h h' (n + 1) F' N'
end
theorem intsOf : ∀ {ys : List Value} {xs : List Int}, ys.length = xs.length → (∀ (i : Nat) (y : Value), ys[i]? = some y → ∃ k t, xs[i]? = some k ∧ y = Value.int k t) → IntsAre ys xs
  | [], [], _, _ => .nil
  | [], _ :: _, h, _ => nomatch h
  | _ :: _, [], h, _ => nomatch h
  | y :: ys, x :: xs, hl, h => by
    obtain ⟨x', t, a, rfl⟩ := h 0 y rfl
    have e : x = x' := by simpa using a
    subst e
    exact .cons _ t (intsOf (by simpa using hl) fun i z hz => by
      obtain ⟨q, t, a, b⟩ := h (i + 1) z (by simpa using hz)
      exact ⟨q, t, by simpa using a, b⟩)

theorem rep1V (v : Value) : ∀ k : Nat, (List.replicate k [v]).flatten = List.replicate k v
  | 0 => rfl
  | k + 1 => by rw [List.replicate_succ, List.flatten_cons, rep1V v k]; rfl
theorem txtsRep (x : Str) (t : Tok) : ∀ k : Nat, Txts (List.replicate k (Value.str x t)) (List.replicate k x)
  | 0 => .nil
  | k + 1 => .cons x t (txtsRep x t k)
theorem Txts.set {x : Str} {t : Tok} : ∀ {vs : List Value} {xs : List Str}, Txts vs xs → ∀ i : Nat, Txts (vs.set i (.str x t)) (xs.set i x)
  | _, _, .nil, _ => .nil
  | _, _, .cons _ _ r, 0 => .cons x t r
  | _, _, .cons z u r, i + 1 => .cons z u (Txts.set r i)
theorem Txts.dropLast : ∀ {vs : List Value} {xs : List Str}, Txts vs xs → Txts vs.dropLast xs.dropLast
  | _, _, .nil => .nil
  | _, _, .cons _ _ .nil => .nil
  | _, _, .cons z u (.cons z2 u2 r) => .cons z u (Txts.dropLast (.cons z2 u2 r))
theorem initArgs6 (a b c d e f : Value) : argsOk "object.__init__" ⟨[a, b, c, d, e, f], []⟩ := by
  unfold argsOk
  rw [signature?_of (id := "object.__init__") (n := ['_', '_', 't', 'i', 'n', 'i', '_', '_']) (o := ['t', 'c', 'e', 'j', 'b', 'o']) (by kernel_rfl) PySem.F.owner_object]
  kernel_rfl
theorem zws5 (I : Addr) (x y z u v : Src) : zws I [x, y, z, u, v] = [(I + 7, "zip"), (I + 5, "tuple"), (I + 6, "tuple"), (I, x.cls), (I + 1, y.cls), (I + 2, z.cls), (I + 3, u.cls), (I + 4, v.cls)] := rfl
theorem strsOf : ∀ {vs : List Value} {xs : List Str}, Txts vs xs → StrsAre vs xs
  | _, _, .nil => .nil
  | _, _, .cons x t r => .cons x t (strsOf r)
theorem join_toList : ∀ xs : List Str, (Txt.join (Str.ofString "") xs).cps.toList = xs.flatMap fun x => x.cps.toList := by
  have key : ∀ xs : List Str, (Str.join (Str.ofString "") xs).cps.toList = xs.flatMap fun x => x.cps.toList := by
    intro xs
    induction xs with
    | nil => rfl
    | cons x r ih =>
      cases r with
      | nil => show x.cps.toList = _; simp
      | cons y r =>
        show ((x.cps ++ (Str.ofString "").cps) ++ (Str.join (Str.ofString "") (y :: r)).cps).toList = _
        rw [Array.toList_append, ih, List.flatMap_cons, Array.toList_append]
        have e : (Str.ofString "").cps.toList = [] := by decide
        rw [e, List.append_nil]
        simp only [List.flatMap_cons]
  intro xs
  show (Builtin.Str.glued (Str.ofString "") xs).cps.toList = _
  rw [StrLaws.glued_eq_join]
  exact key xs
/- texts of k signs each, all ascii -/
def Blk (k : Nat) (x : Str) : Prop := x.cps.size = k ∧ x.cps.toList.all (· < 128) = true
theorem blk_flat {k : Nat} : ∀ xs : List Str, (∀ x ∈ xs, Blk k x) → (xs.flatMap fun x => x.cps.toList).length = k * xs.length ∧ (xs.flatMap fun x => x.cps.toList).all (· < 128) = true
  | [], _ => ⟨rfl, rfl⟩
  | x :: r, h => by
    obtain ⟨a, b⟩ := blk_flat r fun y hy => h y (.tail _ hy)
    obtain ⟨c, d⟩ := h x (.head _)
    rw [List.flatMap_cons]
    refine ⟨?_, ?_⟩
    · rw [List.length_append, a, Array.length_toList, c, List.length_cons, Nat.mul_succ, Nat.add_comm]
    · rw [List.all_append, d, b]; rfl
theorem lenSum {k : Nat} : ∀ xs : List Str, (∀ x ∈ xs, Blk k x) → (xs.map (·.length)).sum = k * xs.length
  | [], _ => rfl
  | x :: r, h => by
    have a := lenSum r fun y hy => h y (.tail _ hy)
    have c : x.length = k := (h x (.head _)).1
    rw [List.map_cons, List.sum_cons, a, c, List.length_cons, Nat.mul_succ, Nat.add_comm]
theorem lastDrop : ∀ (p : List Value) (y : Value), kl_last (p ++ [y]) = some (p, y)
  | [], _ => rfl
  | x :: r, y => by
    show (match kl_last (r ++ [y]) with | some (p, y) => some (x :: p, y) | none => some ([], x)) = _
    rw [lastDrop r y]
theorem popFact {rv : List Value} {v : Value} {la : Nat} (hl : rv.length = la + 1) (h : rv[la]? = some v) : kl_last rv = some (rv.dropLast, v) := by
  have e : rv = rv.dropLast ++ [v] := by
    have hne : rv ≠ [] := fun e => by rw [e] at hl; cases hl
    have h1 := List.dropLast_concat_getLast hne
    have h2 : rv.getLast hne = v := by
      rw [List.getLast_eq_getElem]
      have h3 : rv.length - 1 = la := by lia
      have h4 : rv[rv.length - 1]? = some v := by rw [h3]; exact h
      rw [List.getElem?_eq_getElem (by lia)] at h4
      exact Option.some.inj h4
    rw [h2] at h1
    exact h1.symm
  conv => lhs; rw [e]
  exact lastDrop _ _
section
variable {prog : Program} {w : World} {A : Around} {E : Value → Shared → Prop} {s : Shared} {h₀ : Heap} {L D : Addr} {m : Str → Option Value} {news news' : Led} {vs : List Value} {n : Nat} {k : Int} {t u : Tok} {v : Value}
theorem joinK {D : Addr} {vs : List Value} {xs : List Str} {x : Str} {t : Tok} {Q : Value → Shared → Prop} (hl : s.heap.IsList D vs.toArray) (ht : Txts vs xs) (hsep : x.length ≤ 16) (hw : (xs.map (·.length)).sum + xs.length ≤ 1048576)
    (h : ∀ t' k, Q (.str (Txt.join x xs) t') { s with toks := k }) : wpAny (model prog w) A (call (.builtin "str.join") [.str x t, .ref D]) Q E s := join_listW hl (strsOf ht) hsep hw h
theorem itemK {Q : Value → Shared → Prop} (N : News h₀ L s.heap news) (hm : (D, W.listOf vs.toArray n) ∈ news) (h0 : 0 ≤ k) (hfit : k < 2 ^ 63) (hx : vs[k.toNat]? = some v) (h : Q v s) : wpAny (model prog w) A (getItem (.ref D) (.int k u)) Q E s :=
  wpAny_getItem_list (PySem.IsL.isList (n := n) (N _ hm).1) h0 hfit (by simpa using hx) h
theorem setItemK {Q : Unit → Shared → Prop} (F : Fr h₀ L s.heap m) (N : News h₀ L s.heap news) (U : Upd D (W.listOf vs.toArray n) (W.listOf (vs.set k.toNat v).toArray n) news news') (h0 : 0 ≤ k) (h1 : k.toNat < vs.length) (hfit : k < 2 ^ 63)
    (h : ∀ h', Fr h₀ L h' m → News h₀ L h' news' → Q () { s with heap := h' }) : wpAny (model prog w) A (setItem (.ref D) (.int k t) v) Q E s := by
  obtain ⟨pre, post, rfl, rfl, a, b⟩ := U.split
  have z := N (D, W.listOf vs.toArray n) (List.mem_append.mpr (.inr (.head _)))
  refine ki_setAt z.1 h0 hfit (by rw [List.size_toArray]; lia) (h _ (F.change (Heap.SameBut.update ..) z.2.1 z.2.2) (ki_turn _ N a b ?_ ?_))
  · apply Array.toList_inj.mp
    simp
  · simp
end

open LCg in
inductive CEnd (h₀ : Heap) (L : Addr) (m : Str → Option Value) (s₁ : Shared) (its : Led) (C : Addr) (oC : Obj) (D : Addr) (ys : List Value) (news : Led) (J : Led → Prop) (s₂ : Shared) : Prop
  | mk (h' : Heap) (tk : Nat) (gr : Led) (e : s₂ = { s₁ with heap := h', toks := tk }) (F : Fr h₀ L h' m) (N : News h₀ L h' (its ++ (C, oC) :: (D, lst ys) :: (gr ++ news))) (off : ∀ p ∈ gr ++ news, (∀ q ∈ its, p.1 ≠ q.1) ∧ p.1 ≠ C ∧ p.1 ≠ D) (hJ : J gr)
open LCg in
/- the end of a comprehension -/
def CFin (h₀ : Heap) (L : Addr) (m : Str → Option Value) (s₂ : Shared) (news : Led) (J : List Value → Led → Prop) (Q : Value → Shared → Prop) : Prop :=
  ∀ D h tk ys gr, Fr h₀ L h m → News h₀ L h ((D, lst ys) :: (gr ++ news)) → (∀ p ∈ gr ++ news, p.1 ≠ D) → J ys gr → Q (.ref D) { s₂ with heap := h, toks := tk }
open LCg in
def CFinA (h₀ : Heap) (L : Addr) (m : Str → Option Value) (s₂ : Shared) (news : Led) (y : Str) (J : List Value → Led → Prop) (Q : Flow → Shared → Prop) : Prop :=
  ∀ D h tk ys gr, Fr h₀ L h (fun z => if z = y then some (.ref D) else m z) → News h₀ L h ((D, lst ys) :: (gr ++ news)) → (∀ p ∈ gr ++ news, p.1 ≠ D) → J ys gr → Q .next { s₂ with heap := h, toks := tk }
abbrev ctests (ifs : List Expr) (env : Env) : Sem Bool := forIn ifs true fun c r => if r = true then do let ok ← isTrue c env (eval c env); pure (ForInStep.yield ok) else pure (ForInStep.yield r)
section
variable {prog : Program} {w : World} {A : Around} {E : Value → Shared → Prop} {s : Shared} {h₀ : Heap} {L : Addr} {m : Str → Option Value} {env : Env}
theorem gen_loop {elt target iter : Expr} {ifs : List Expr} {scope : Scope} {pos : Pos} {it acc : Value} {env : Env} {R : Result → Shared → Prop} (I : Nat → Shared → Prop)
    (turn : ∀ n s, I n s → wpAny (model prog w) A (pyNext it) (fun r s₁ => match r with
      | none => R (.ok .next) s₁
      | some v => wpAny (model prog w) A (letOwnedTupleGo target it v) (fun _ s₀ => wpAny (model prog w) A (assign target env v) (fun _ s₂ =>
          wpAny (model prog w) A (ctests ifs env) (fun ok s₃ =>
            if ok = true then wpAny (model prog w) A (eval elt env) (fun x s₄ =>
              wpAny (model prog w) A (call (.builtin "list.append") [acc, x]) (fun _ s₅ => ∃ m, m < n ∧ I m s₅) (notedBy (model prog w) A env fun e s' => R (.error e) s') s₄) (notedBy (model prog w) A env fun e s' => R (.error e) s') s₃
            else ∃ m, m < n ∧ I m s₃) (notedBy (model prog w) A env fun e s' => R (.error e) s') s₂)
          (notedBy (model prog w) A env fun e s' => R (.error e) s') s₀) (notedBy (model prog w) A env fun e s' => R (.error e) s') s₁) (notedBy (model prog w) A env fun e s' => R (.error e) s') s)
    (n : Nat) (h : I n s) : codeAny (model prog w) A (.compLoop (.ListComp elt [⟨target, iter, ifs, 0⟩] scope pos) 0 it acc env) R s := by
  refine codeAny_loop rfl I (fun n s hI => ?_) n h
  show wpAny _ A ((compTurn (.ListComp elt [⟨target, iter, ifs, 0⟩] scope pos) 0 it acc env).onRaise (fun x => do noteFrame x env; theTreesLotGoes x)) _ _ s
  refine wpAny_noted ?_
  rw [compTurn_list]
  refine wpAny_bind (wpAny_standAt (wpAny_bind (wpAny_mono (turn n s hI) (fun r s₁ h₁ => ?_) fun _ _ h' => h')))
  cases r with
  | none => exact wpAny_pure h₁
  | some v =>
    refine wpAny_bind (wpAny_mono h₁ (fun _ s₀ h₀' => ?_) fun _ _ h' => h')
    refine wpAny_bind (wpAny_mono h₀' (fun _ s₂ h₂ => wpAny_bind (wpAny_mono h₂ (fun ok s₃ h₃ => ?_) fun _ _ h' => h')) fun _ _ h' => h')
    cases ok with
    | false => exact wpAny_pure ⟨rfl, h₃⟩
    | true =>
      exact wpAny_bind (wpAny_bind (wpAny_mono h₃ (fun x s₄ h₄ => wpAny_bind (wpAny_mono h₄ (fun _ s₅ h₅ => wpAny_pure (wpAny_pure ⟨rfl, h₅⟩)) fun _ _ h' => h')) fun _ _ h' => h'))

open LCg in
/- what a comprehension's source brings -/
inductive CompAt (prog : Program) (w : World) (A : Around) (h₀ : Heap) (L : Addr) (m : Str → Option Value) (env : Env) (tgt elt : Expr) (ifs : List Expr) (scope : Scope) (cl : List (Str × Addr)) (FinP : Shared → Led → (List Value → Led → Prop) → Prop) (it : Value) (s₂ : Shared) : Prop
  | mk (I : Addr) (fp wr : List Addr) (n : Nat) (P Md : Nat → Value → Heap → Prop) (St : Nat → Heap → Prop) (ws : List (Addr × String)) (keep news : Led) (B : Nat → (Str → Option Value) → Prop) (J : Nat → List Value → Led → Prop)
    (h1 : it = .ref I)
    (h2 : KTurns prog w A tgt I fp wr n P Md St)
    (h3 : (∀ (s : Shared) (Q : Value → Shared → Prop) (E : Value → Shared → Prop), St 0 s.heap → Q (.ref I) s → wpAny (model prog w) A (pyIter (.ref I)) Q E s))
    (h4 : (∀ i h, St i h → ∃ its, Objs ws its ∧ ∀ p ∈ its, h.get? p.1 = some p.2))
    (h5 : (∀ b ∈ ws.map (·.1), b ∈ fp ∧ h₀.get? b = none))
    (h6 : (∀ b ∈ wr, b ∈ ws.map (·.1)))
    (h7 : (∀ b ∈ fp, b ∈ ws.map (·.1) ∨ (∃ o, (b, o) ∈ keep) ∨ ∃ o, h₀.get? b = some o))
    (h8 : L ∉ fp)
    (h9 : (∀ p ∈ news, p.1 ∉ ws.map (·.1)))
    (h10 : (∀ p ∈ keep, p ∈ news))
    (h11 : n ≤ sizeLine)
    (h12 : St 0 s₂.heap)
    (h13 : Fr h₀ L s₂.heap m)
    (h14 : News h₀ L s₂.heap news)
    (h15 : J 0 [] [])
    (h16 : (∀ C i v (s : Shared) m' (Q : Unit → Shared → Prop) (E : Value → Shared → Prop), P i v s.heap → s.heap.Ns C m' → (∀ p ∈ news, s.heap.get? p.1 = some p.2) → (∀ b o, h₀.get? b = some o → s.heap.get? b = some o) →
      (∀ h' tk m₂, h'.Ns C m₂ → B i m₂ → (∀ c o, c ≠ C → s.heap.get? c = some o → h'.get? c = some o) → Q () { s with heap := h', toks := tk }) → wpAny (model prog w) A (assign tgt (compEnvC scope cl C env) v) Q E s))
    (h17 : (∀ C oC D i ys gr m₂ h tk (E' : Value → Shared → Prop), i < n → ys.length ≤ i → B i m₂ → NsObj oC m₂ → J i ys gr → Fr h₀ L h m → @Ne Nat C D → (∀ p ∈ gr ++ news, p.1 ≠ C ∧ p.1 ≠ D) →
      AllObj ws (fun its => (∀ q ∈ its, @Ne Nat q.1 C ∧ @Ne Nat q.1 D) → (∀ p ∈ gr ++ news, ∀ q ∈ its, p.1 ≠ q.1) → News h₀ L h (its ++ (C, oC) :: (D, lst ys) :: (gr ++ news)) →
        wpAny (model prog w) A (ctests ifs (compEnvC scope cl C env)) (fun ok s₃ =>
          if ok = true then wpAny (model prog w) A (eval elt (compEnvC scope cl C env)) (fun y s₄ => CEnd h₀ L m { s₂ with heap := h, toks := tk } its C oC D ys news (J (i + 1) (ys ++ [y])) s₄) E' s₃
          else CEnd h₀ L m { s₂ with heap := h, toks := tk } its C oC D ys news (J (i + 1) ys) s₃) E' { s₂ with heap := h, toks := tk })))
    (h18 : FinP s₂ news (J n))
    : CompAt prog w A h₀ L m env tgt elt ifs scope cl FinP it s₂

open LCg in
/- the turns of a comprehension -/
inductive CI (h₀ : Heap) (L : Addr) (m : Str → Option Value) (s₂ : Shared) (C : Addr) (ws : List (Addr × String)) (n : Nat) (St : Nat → Heap → Prop) (news : Led) (J : Nat → List Value → Led → Prop) (k : Nat) (s' : Shared) : Prop
  | mk (h' : Heap) (tk i : Nat) (ys : List Value) (m' : Str → Option Value) (gr : Led) (e1 : s' = { s₂ with heap := h', toks := tk }) (hi : i ≤ n) (e2 : k = n + 1 - i) (hyl : ys.length ≤ i) (hst : St i h') (F : Fr h₀ L h' m) (hn : h'.Ns C m') (N : News h₀ L h' ((s₂.heap.objs.size, lst ys) :: (gr ++ news)))
    (off : ∀ p ∈ gr ++ news, p.1 ∉ ws.map (·.1) ∧ p.1 ≠ C ∧ p.1 ≠ s₂.heap.objs.size) (hJ : J i ys gr)
open LCg in
inductive CE (h₀ : Heap) (L : Addr) (m : Str → Option Value) (s₂ : Shared) (C : Addr) (m₄ : Str → Option Value) (ws : List (Addr × String)) (St : Heap → Prop) (ys : List Value) (news : Led) (J : Led → Prop) (s₅ : Shared) : Prop
  | mk (h₅ : Heap) (tk₅ : Nat) (gr' : Led) (e : s₅ = { s₂ with heap := h₅, toks := tk₅ }) (hst : St h₅) (F : Fr h₀ L h₅ m) (hn : h₅.Ns C m₄) (N : News h₀ L h₅ ((s₂.heap.objs.size, lst ys) :: (gr' ++ news)))
    (off : ∀ p ∈ gr' ++ news, p.1 ∉ ws.map (·.1) ∧ p.1 ≠ C ∧ p.1 ≠ s₂.heap.objs.size) (hJ : J gr')
open LCg in
theorem comp_core {elt iter tgt : Expr} {ifs : List Expr} {scope : Scope} {cl : List (Str × Addr)} {pos : Pos} {it : Value} {s₂ : Shared} {FinP : Shared → Led → (List Value → Led → Prop) → Prop} {RR : Value → Addr → Result → Shared → Prop}
    (hcell : ∀ y ∈ scope.names, y.2 ≠ .cell) (hkind : scope.kind = .function) (h₂ : CompAt prog w A h₀ L m env tgt elt ifs scope cl FinP it s₂)
    (hRR : ∀ D C h tk m' ys gr news (n : Nat) (J : Nat → List Value → Led → Prop), FinP s₂ news (J n) → Fr h₀ L h m → News h₀ L h ((D, lst ys) :: (gr ++ news)) → (∀ p ∈ gr ++ news, p.1 ≠ D) → h.Ns C m' → h₀.get? C = none → h₀.get? D = none → C ≠ L → D ≠ L → C ≠ D → (∀ p ∈ gr ++ news, p.1 ≠ C) → J n ys gr → RR (.ref D) C (.ok .next) { s₂ with heap := h, toks := tk }) :
    wpAny (model prog w) A (newList []) (fun acc s₃ => wpAny (model prog w) A (newFunctionEnv scope env.globals cl [] env.qual none .none (some env)) (fun cenv s₄ =>
      codeAny (model prog w) A (.compStart (.ListComp elt [⟨tgt, iter, ifs, 0⟩] scope pos) 0 it acc { cenv with scope := relabel scope env }) (RR acc cenv.locals) s₄) E s₃) E s₂ := by
  obtain ⟨I, fp, wr, n, P, Md, St, ws, keep, news, B, J, rfl, W, hself, hobj, hws, hwr, hfp, hL, hnws, hk, hsz, hst, F, N, h0, hasg, step, fin⟩ := h₂
  refine wpAny_newObj_type (wpAny_newFunctionEnv hcell (by intro y hy; simp at hy) (fun h₁ hns₁ hsb₁ => ?_) hkind)
  dsimp only at hns₁ hsb₁ ⊢
  generalize hH2 : s₂.heap.push { cls := .type "list", dict := none, data := .seq ([] : List Value).toArray } = H2 at hns₁ hsb₁ ⊢
  have hC : H2.objs.size = s₂.heap.objs.size + 1 := by rw [← hH2, Heap.size_push]
  have hDC : s₂.heap.objs.size ≠ H2.objs.size := by rw [hC]; exact Nat.ne_of_lt (Nat.lt_succ_self _)
  have below : ∀ b, b < s₂.heap.objs.size → b ≠ H2.objs.size ∧ b ≠ s₂.heap.objs.size := fun b hb => ⟨by rw [hC]; exact Nat.ne_of_lt (Nat.lt_succ_of_lt hb), Nat.ne_of_lt hb⟩
  have hwlt : ∀ b ∈ ws.map (·.1), b < s₂.heap.objs.size := fun b hb => by
    obtain ⟨its, hits, hval⟩ := hobj 0 _ hst
    rw [← hits.map] at hb
    obtain ⟨p, hp, rfl⟩ := List.mem_map.mp hb
    exact Heap.lt_size (hval p hp)
  have hfplt : ∀ b ∈ fp, b < s₂.heap.objs.size := fun b hb => by
    rcases hfp b hb with h | ⟨o, h⟩ | ⟨o, h⟩
    · exact hwlt b h
    · exact Heap.lt_size (N _ (hk _ h)).1
    · exact Heap.lt_size (F.keep _ _ h)
  have hDf : s₂.heap.objs.size ∉ fp := fun hm => Nat.lt_irrefl _ (hfplt _ hm)
  have hCf : H2.objs.size ∉ fp := fun hm => by have := hfplt _ hm; rw [hC] at this; exact Nat.lt_irrefl _ (Nat.lt_of_succ_lt this)
  have hwf : ∀ b ∈ wr, b ∈ fp := W.sub
  have old : ∀ b o, s₂.heap.get? b = some o → h₁.get? b = some o := fun b o e => hsb₁.extBut b o (below b (Heap.lt_size e)).1 (Heap.get?_push_of_some _ (hH2 ▸ Heap.get?_push_of_some _ e))
  have hacc : h₁.get? s₂.heap.objs.size = some (lst []) := hsb₁.extBut _ _ hDC (Heap.get?_push_of_some _ (hH2 ▸ Heap.get?_push_size _ rfl))
  have hst₁ : St 0 h₁ := W.frame _ _ _ hst fun b _ o e => old b o e
  have fresh : ∀ a, s₂.heap.objs.size ≤ a → s₂.heap.get? a = none := fun a ha => by
    cases e : s₂.heap.get? a with
    | none => rfl
    | some o' => exact absurd (Heap.lt_size e) (Nat.not_lt.mpr ha)
  have fresh₀ : ∀ a, s₂.heap.objs.size ≤ a → h₀.get? a = none := fun a ha => by
    cases e : h₀.get? a with
    | none => rfl
    | some o' => have := F.keep a o' e; rw [fresh a ha] at this; cases this
  have hD₀ : h₀.get? s₂.heap.objs.size = none := fresh₀ _ (Nat.le_refl _)
  have hC₀ : h₀.get? H2.objs.size = none := fresh₀ _ (by rw [hC]; exact Nat.le_succ _)
  have hLlt : L < s₂.heap.objs.size := F.ns.lt
  have hDL : s₂.heap.objs.size ≠ L := Ne.symm (below L hLlt).2
  have hCL : H2.objs.size ≠ L := Ne.symm (below L hLlt).1
  have hLw : L ∉ wr := fun h => hL (hwf _ h)
  have loop : ∀ s₃ : Shared, s₃ = { s₂ with heap := h₁, toks := s₂.toks + ([] : List (Str × Value)).length } →
      codeAny (model prog w) A (.compLoop (.ListComp elt [⟨tgt, iter, ifs, 0⟩] scope pos) 0 (.ref I) (.ref s₂.heap.objs.size) (compEnvC scope cl H2.objs.size env))
        (RR (.ref s₂.heap.objs.size) H2.objs.size) s₃ := by
    rintro s₃ rfl
    refine gen_loop
      (CI h₀ L m s₂ H2.objs.size ws n St news J) ?_ (n + 1)
      ⟨h₁, _, 0, [], _, [], rfl, Nat.zero_le _, rfl, Nat.le_refl _, hst₁, F.keeps old, hns₁, fun p hp => ?_, fun p hp => ⟨hnws p hp, below _ (Heap.lt_size (N p hp).1)⟩, h0⟩
    · rintro k s' hz0
      refine hide ?_
      intro Z hZ
      obtain ⟨h', tk, i, ys, m', gr, rfl, hi, rfl, hyl, hst', F', hn', N', off', hJ⟩ := hz0
      refine hZ ?_
      clear hZ Z
      have offw : ∀ p ∈ (s₂.heap.objs.size, lst ys) :: (gr ++ news), p.1 ∉ wr := fun p hp hm => by
        rcases List.mem_cons.mp hp with rfl | hp
        · exact hDf (hwf _ hm)
        · exact (off' p hp).1 (hwr _ hm)
      have oldw : ∀ b o, h₀.get? b = some o → b ∉ wr := fun b o e hb => by rw [(hws b (hwr b hb)).2] at e; cases e
      by_cases hlt : i < n
      · refine W.item i _ _ _ hlt hst' fun v h₂ tk₂ hMd hk₂ => ?_
        refine W.go i v _ _ _ hMd fun h₃ hP hst₃ hk₃ => ?_
        have up₃ : ∀ b o, b ∉ wr → h'.get? b = some o → h₃.get? b = some o := fun b o hb e => hk₃ b o hb (hk₂ b o hb e)
        refine hasg H2.objs.size i v _ _ _ _ hP (hn'.at' fun o e => up₃ _ o (fun q => hCf (hwf _ q)) e) (fun p hp => up₃ _ _ (offw p (.tail _ (List.mem_append_right _ hp))) (N' p (.tail _ (List.mem_append_right _ hp))).1) (fun b o e => up₃ b o (oldw b o e) (F'.keep b o e)) fun h₄ tk₄ m₄ hn₄ hB hs₄ => ?_
        have up : ∀ b o, b ∉ wr → b ≠ H2.objs.size → h'.get? b = some o → h₄.get? b = some o := fun b o h1 h2 e => hs₄ b o h2 (up₃ b o h1 e)
        have hst₄ : St (i + 1) h₄ := W.frame _ _ _ hst₃ fun b hb o e => hs₄ b o (fun q => hCf (q ▸ hb)) e
        refine hide ?_
        intro Z hZ
        obtain ⟨its, hits, hval⟩ := hobj _ _ hst₄
        have hmap := hits.map
        obtain ⟨oC, heC, hoC⟩ := ns_obj hn₄
        refine hZ ?_
        clear hZ Z
        have F₄ : Fr h₀ L h₄ m := ⟨F'.ns.at' fun o e => up _ o hLw (Ne.symm hCL) e, fun c o e => up c o (oldw c o e) (fun q => by rw [q, hC₀] at e; cases e) (F'.keep c o e), F'.above⟩
        have hiw : ∀ q ∈ its, q.1 ∈ ws.map (·.1) := fun q hq => by rw [← hmap]; exact List.mem_map_of_mem hq
        have N₄ : News h₀ L h₄ (its ++ (H2.objs.size, oC) :: (s₂.heap.objs.size, lst ys) :: (gr ++ news)) := fun q hq => by
          rcases List.mem_append.mp hq with hq | hq
          · have h1 := hiw q hq
            exact ⟨hval q hq, fun e => hL (e ▸ (hws _ h1).1), (hws _ h1).2⟩
          rcases List.mem_cons.mp hq with rfl | hq
          · exact ⟨heC, hCL, hC₀⟩
          · have z := N' q hq
            refine ⟨up _ _ (offw q hq) ?_ z.1, z.2⟩
            rcases List.mem_cons.mp hq with rfl | hq
            · exact hDC
            · exact (off' q hq).2.1
        have hiCD : ∀ q ∈ its, @Ne Nat q.1 H2.objs.size ∧ @Ne Nat q.1 s₂.heap.objs.size := fun q hq => below _ (hwlt _ (hiw q hq))
        have hio : ∀ p ∈ gr ++ news, ∀ q ∈ its, p.1 ≠ q.1 := fun p hp q hq e => (off' p hp).1 (e ▸ hiw q hq)
        have main := (step H2.objs.size oC s₂.heap.objs.size i ys gr m₄ h₄ tk₄ (notedBy (model prog w) A (compEnvC scope cl H2.objs.size env) fun e s' => RR (.ref s₂.heap.objs.size) H2.objs.size (.error e) s')
          hlt hyl hB hoC hJ F₄ (Ne.symm hDC) (fun p hp => (off' p hp).2)).at hits hiCD hio N₄
        -- the end of a turn
        have ending : ∀ ys' s₅, CEnd h₀ L m { s₂ with heap := h₄, toks := tk₄ } its H2.objs.size oC s₂.heap.objs.size ys news (J (i + 1) ys') s₅ →
            CE h₀ L m s₂ H2.objs.size m₄ ws (St (i + 1)) ys news (J (i + 1) ys') s₅ := by
          rintro ys' s₅ ⟨h₅, tk₅, gr', rfl, F₅, N₅, off₅, hJ₅⟩
          have zC := (N₅ (H2.objs.size, oC) (List.mem_append_right _ (.head _))).1
          refine ⟨h₅, tk₅, gr', rfl, ?_, F₅, hoC.ns zC, fun p hp => N₅ p (List.mem_append_right _ (.tail _ hp)), fun p hp => ⟨fun hm => ?_, (off₅ p hp).2⟩, hJ₅⟩
          · refine W.frame _ _ _ hst₄ fun b hb o e => ?_
            rcases hfp b hb with h | ⟨o', h⟩ | ⟨o', h⟩
            · rw [← hmap] at h
              obtain ⟨q, hq, rfl⟩ := List.mem_map.mp h
              have h1 := hval q hq
              rw [e] at h1
              have h2 : o = q.2 := Option.some.inj h1
              rw [h2]
              exact (N₅ q (List.mem_append_left _ hq)).1
            · have h1 := hk _ h
              have h2 := (N₄ _ (List.mem_append_right _ (.tail _ (.tail _ (List.mem_append_right _ h1))))).1
              have h3 : h₄.get? b = some o' := h2
              rw [e] at h3
              have h4 : o = o' := Option.some.inj h3
              rw [h4]
              exact (N₅ _ (List.mem_append_right _ (.tail _ (.tail _ (List.mem_append_right _ h1))))).1
            · have h2 := F₄.keep _ _ h
              rw [e] at h2
              have h4 : o = o' := Option.some.inj h2
              rw [h4]
              exact F₅.keep _ _ h
          · rw [← hmap] at hm
            obtain ⟨q, hq, e⟩ := List.mem_map.mp hm
            exact (off₅ p hp).1 q hq e.symm
        refine wpAny_mono main (fun ok s₅ h₅ => ?_) fun _ _ e => e
        cases ok with
        | false =>
          simp only [Bool.false_eq_true, if_false] at h₅ ⊢
          refine hide ?_
          intro Z hZ
          obtain ⟨h₆, tk₆, gr', rfl, hst₆, F₆, hn₆, N₆, off₆, hJ₆⟩ := ending ys s₅ h₅
          refine hZ ?_
          clear hZ Z
          exact ⟨n + 1 - (i + 1), by lia, h₆, tk₆, i + 1, ys, m₄, gr', rfl, hlt, rfl, Nat.le_succ_of_le hyl, hst₆, F₆, hn₆, N₆, off₆, hJ₆⟩
        | true =>
          simp only [if_true] at h₅ ⊢
          refine wpAny_mono h₅ (fun y s₆ h₆ => ?_) fun _ _ e => e
          refine hide ?_
          intro Z hZ
          obtain ⟨h₆, tk₆, gr', rfl, hst₆, F₆, hn₆, N₆, off₆, hJ₆⟩ := ending _ s₆ h₆
          refine hZ ?_
          clear hZ Z
          have zD := (N₆ (s₂.heap.objs.size, lst ys) (.head _)).1
          refine append_at (hsz := by show ys.toArray.size ≤ sizeLine; rw [List.size_toArray]; exact Nat.le_trans hyl (Nat.le_trans hi hsz)) zD fun h₇ hs₇ hD₇ => ?_
          refine ⟨n + 1 - (i + 1), by lia, h₇, tk₆, i + 1, ys ++ [y], m₄, gr', rfl, hlt, rfl, by rw [List.length_append, List.length_singleton]; lia,
            W.frame _ _ _ hst₆ fun b hb o e => hs₇.extBut b o (fun q => hDf (q ▸ hb)) e, F₆.change hs₇ hDL hD₀, hn₆.sameBut hs₇ (Ne.symm hDC), fun p hp => ?_, off₆, hJ₆⟩
          rcases List.mem_cons.mp hp with rfl | hp
          · exact ⟨hD₇.trans (congrArg some (lst_snoc ys y)), hDL, hD₀⟩
          · exact ⟨hs₇.extBut _ _ (off₆ p hp).2.2 (N₆ p (.tail _ hp)).1, (N₆ p (.tail _ hp)).2⟩
      · obtain rfl : i = n := Nat.le_antisymm hi (Nat.not_lt.mp hlt)
        refine W.done _ _ _ hst' fun h₂ tk₂ hk₂ => ?_
        have up : ∀ b o, b ∉ wr → h'.get? b = some o → h₂.get? b = some o := fun b o h1 e => hk₂ b o h1 e
        refine hRR s₂.heap.objs.size H2.objs.size h₂ tk₂ m' ys gr news _ J fin ⟨F'.ns.at' fun o e => up _ o hLw e, fun c o e => up c o (oldw c o e) (F'.keep c o e), F'.above⟩ (fun p hp => ⟨up _ _ (offw p hp) (N' p hp).1, (N' p hp).2⟩) (fun p hp => (off' p hp).2.2)
          (hn'.at' fun o e => hk₂ _ o (fun q => hCf (hwf _ q)) e) hC₀ hD₀ hCL hDL (Ne.symm hDC) (fun p hp => (off' p hp).2.1) hJ
    · rcases List.mem_cons.mp hp with rfl | hp
      · exact ⟨hacc, hDL, hD₀⟩
      · exact ⟨old _ _ (N p hp).1, (N p hp).2⟩
  exact codeAny_compStart_list (loop _ rfl) (hself _ _ _ hst₁ (loop _ rfl))
open LCg in
open LCg in
theorem Assign_ListComp_G {elt iter tgt : Expr} {ifs : List Expr} {y : Str} {py : Pos} {scope : Scope} {cl : List (Str × Addr)} {pos spos : Pos} {Q : Flow → Shared → Prop} (_F : Fr h₀ env.locals s.heap m)
    (hsw : swapsWith (.ListComp elt [⟨tgt, iter, ifs, 0⟩] scope pos) (some (.Name y py)) spos.line env = pure true)
    (hclos : closureFor scope env = pure cl) (hcell : ∀ y ∈ scope.names, y.2 ≠ .cell) (hkind : scope.kind = .function)
    (hnames : ∀ y ∈ scope.names, y.2 = .local → scope.names.lookup y.1 = some .local)
    (hy : env.kindOf y = some .local) (hp : (env.scope.kind == .class || (env.scope.kind == .module && env.locals != env.globals)) = false)
    (h : wpAny (model prog w) A (eval iter env) (fun xv s₁ => wpAny (model prog w) A (pyIter xv) (fun it s₂ => CompAt prog w A h₀ env.locals m env tgt elt ifs scope cl (fun s₂ news J => CFinA h₀ env.locals m s₂ news y J Q) it s₂) E s₁) E s)
    (hs : ∀ x, foldedSetIterable iter env x = pure x := by intro _; rfl) :
    wpAny (model prog w) A (exec (.Assign [.Name y py] (.ListComp elt [⟨tgt, iter, ifs, 0⟩] scope pos) spos) env) Q E s := by
  rw [exec_Assign_Name_used _ _ _ _ hsw]
  refine wpAny_bind (wpAny_standAt (wpAny_bind ?_))
  show wpAny _ A (do let _ ← comprehension (.ListComp elt [⟨tgt, iter, ifs, 0⟩] scope pos) scope env _ (newList []) false (eval iter env) (some (assign (.Name y py) env))) _ _ s
  refine wpAny_bind (wpAny_mono (wpAny_comprehension_free (use := some (assign (.Name y py) env)) (Q := fun _ s' => Q .next s') rfl hs hclos hkind hnames
    (wpAny_mono h (fun xv s₁ h₁ => wpAny_mono h₁ (fun it s₂ h₂ => comp_core hcell hkind h₂ ?_) fun _ _ e => e) fun _ _ e => e)) (fun _ s' hq => wpAny_pure (wpAny_pure hq)) fun _ _ e => e)
  intro D C h' tk m' ys gr news n J fin F' N' o1 hn hC₀ hD₀ hCL hDL hCD offC hJ
  show wpAny _ A (assign (.Name y py) env (.ref D)) _ _ _
  refine wpAny_assign_Name (wpAny_storeName_local hy F'.ns (fun h₂ hn₂ hs₂ => ?_) hp)
  have hL₀ : h₀.get? env.locals = none := Heap.get?_none_of_le F'.above
  have F₂ : Fr h₀ env.locals h₂ (fun z => if z = y then some (.ref D) else m z) := ⟨hn₂, fun b o e => hs₂.extBut b o (fun q => by rw [q, hL₀] at e; cases e) (F'.keep b o e), F'.above⟩
  refine ⟨m', hn.sameBut hs₂ hCL, fun h'' hs'' => fin D h'' _ ys gr (F₂.change hs'' hCL hC₀) (fun p hp => ?_) o1 hJ⟩
  have z : h₂.get? p.1 = some p.2 := hs₂.extBut _ _ (N' p hp).2.1 (N' p hp).1
  refine ⟨hs''.extBut _ _ ?_ z, (N' p hp).2⟩
  rcases List.mem_cons.mp hp with rfl | hp
  · exact Ne.symm hCD
  · exact offC p hp
end

open LCg in
abbrev CStep (prog : Program) (w : World) (A : Around) (h₀ : Heap) (L : Addr) (m : Str → Option Value) (env : Env) (elt : Expr) (ifs : List Expr) (scope : Scope) (cl : List (Str × Addr)) (s₂ : Shared) (ws : List (Addr × String)) (news : Led) (J : Nat → List Value → Led → Prop)
    (C : Addr) (oC : Obj) (D : Addr) (i : Nat) (ys : List Value) (gr : Led) (h : Heap) (tk : Nat) (E' : Value → Shared → Prop) : Prop :=
  AllObj ws (fun its => (∀ q ∈ its, @Ne Nat q.1 C ∧ @Ne Nat q.1 D) → (∀ p ∈ gr ++ news, ∀ q ∈ its, p.1 ≠ q.1) → News h₀ L h (its ++ (C, oC) :: (D, lst ys) :: (gr ++ news)) →
        wpAny (model prog w) A (ctests ifs (compEnvC scope cl C env)) (fun ok s₃ =>
          if ok = true then wpAny (model prog w) A (eval elt (compEnvC scope cl C env)) (fun y s₄ => CEnd h₀ L m { s₂ with heap := h, toks := tk } its C oC D ys news (J (i + 1) (ys ++ [y])) s₄) E' s₃
          else CEnd h₀ L m { s₂ with heap := h, toks := tk } its C oC D ys news (J (i + 1) ys) s₃) E' { s₂ with heap := h, toks := tk })
section
variable {prog : Program} {w : World} {A : Around} {E : Value → Shared → Prop} {s : Shared} {env : Env} {h₀ : Heap} {m : Str → Option Value} {FinP : Shared → Led → (List Value → Led → Prop) → Prop}
theorem zipG_comp {elt : Expr} {ifs : List Expr} {scope : Scope} {cl : List (Str × Addr)} {a b : Str} {pa pb tp : Pos} {kk : Nat} {args : List Value} {x y : Src} {keep news : Led} (hh : A.handled = none) (hargs : args = [x, y].map Src.val)
    (hct : checkTypeCall "zip" ⟨args, []⟩ = pure ()) (hcn : checkBuiltinCall "zip.__new__" ⟨.type "zip" :: args, []⟩ = pure ()) (hok : ∀ obj, argsOk "object.__init__" ⟨obj :: args, []⟩)
    (F : Fr h₀ env.locals s.heap m) (N : News h₀ env.locals s.heap news) (hk : ∀ p ∈ keep, p ∈ news)
    (ok : ∀ z ∈ [x, y], z.ok s.heap) (hn : ∀ z ∈ [x, y], x.n ≤ z.n) (hfp : ∀ z ∈ [x, y], ∀ b ∈ z.fp, (∃ o, (b, o) ∈ keep) ∨ ∃ o, h₀.get? b = some o) (hsz : x.n ≤ sizeLine)
    (hkind : scope.kind = .function) (hxa : scope.names.lookup a = some .local) (hxb : scope.names.lookup b = some .local) (hab : ¬ a = b)
    (J : Nat → List Value → Led → Prop) (h0 : J 0 [] [])
    (step : ∀ I, (∀ p ∈ news, p.1 < I) → ∀ C oC D i ys gr m₂ vx vy h tk (E' : Value → Shared → Prop), i < x.n → ys.length ≤ i → x.P i vx → y.P i vy → m₂ a = some vx → m₂ b = some vy → LCg.NsObj oC m₂ → J i ys gr → Fr h₀ env.locals h m → @Ne Nat C D → (∀ p ∈ gr ++ news, p.1 ≠ C ∧ p.1 ≠ D) →
      CStep prog w A h₀ env.locals m env elt ifs scope cl s (zws I [x, y]) news J C oC D i ys gr h tk E')
    (fin : ∀ h', FinP { s with heap := h' } news (J x.n)) :
    wpAny (model prog w) A (call (.type "zip") args) (fun xv s₁ => wpAny (model prog w) A (pyIter xv) (fun it s₂ => CompAt prog w A h₀ env.locals m env (.Tuple [.Name a pa, .Name b pb] kk tp) elt ifs scope cl FinP it s₂) E s₁) E s := by
  have hsmall : [x, y].length ≤ 100 := by simp
  subst hargs
  refine callType_new PySem.F.called_zip (by decide) hct hcn hok PySem.F.entry_zip_new (S := fun _ R s₁ => s₁ = s ∧ ∀ h', (∀ b o, s.heap.get? b = some o → h'.get? b = some o) → ZSt (s.heap.objs.size + [x, y].length + 2) (s.heap.objs.size + [x, y].length) (s.heap.objs.size + [x, y].length + 1) (numb s.heap.objs.size [x, y]) .none 0 h' → R (.ok (.ret (.ref (s.heap.objs.size + [x, y].length + 2)))) { s with heap := h' }) ?_ ?_
  · refine .of_wp fun prog w A R s₁ h => ?_
    obtain ⟨rfl, h⟩ := h
    exact zip_new_run ok hsmall h
  refine ⟨rfl, fun h' keepH zst => ?_⟩
  have lt2 : ∀ {b : Addr} {o : Obj}, s.heap.get? b = some o → b < s.heap.objs.size := fun e => Heap.lt_size e
  have hn1 : [x, y].length = 1 + 1 := rfl
  refine ⟨⟨_, zst.z, rfl⟩, ?_⟩
  refine wpAny_pyIter_zip zst.z ?_
  have hfpL : ∀ p ∈ numb s.heap.objs.size [x, y], ∀ b ∈ p.2.fp, b < s.heap.objs.size ∧ b ≠ env.locals := by
    intro p hp b hb
    obtain ⟨_, _, h3⟩ := numb_mem hp
    rcases hfp p.2 h3 b hb with ⟨o, ho⟩ | ⟨o, ho⟩
    · have := N _ (hk _ ho)
      exact ⟨lt2 this.1, this.2.1⟩
    · exact ⟨lt2 (F.keep _ _ ho), fun e => Nat.ne_of_lt (Nat.lt_of_lt_of_le (Heap.lt_size ho) F.above) e⟩
  have D : ZA (s.heap.objs.size + [x, y].length + 2) (s.heap.objs.size + [x, y].length) (s.heap.objs.size + [x, y].length + 1) (numb s.heap.objs.size [x, y]) := by
    refine ⟨?_, ?_, ?_, numb_pair _ _, fun p hp => ?_⟩
    · exact Nat.ne_of_lt (by lia)
    · exact Nat.ne_of_lt (by lia)
    · exact Nat.ne_of_lt (by lia)
    · obtain ⟨h1, h2, h3⟩ := numb_mem hp
      refine ⟨Nat.ne_of_lt (Nat.lt_of_lt_of_le h2 (by lia)), Nat.ne_of_lt (Nat.lt_of_lt_of_le h2 (by lia)), Nat.ne_of_lt (Nat.lt_of_lt_of_le h2 (Nat.le_refl _)), fun b hb => ?_⟩
      have hb' := (hfpL p hp b hb).1
      refine ⟨Nat.ne_of_lt (Nat.lt_of_lt_of_le hb' (by lia)), Nat.ne_of_lt (Nat.lt_of_lt_of_le hb' (by lia)), fun q hq => Nat.ne_of_lt (Nat.lt_of_lt_of_le hb' (numb_mem hq).1)⟩
  have hcons : numb s.heap.objs.size [x, y] = (s.heap.objs.size, x) :: numb (s.heap.objs.size + 1) [y] := rfl
  have hmap : ∀ (a : Nat) (l : List Src), (numb a l).map (·.2) = l := by
    intro a l
    induction l generalizing a with
    | nil => rfl
    | cons y l ih => show y :: (numb (a + 1) l).map (·.2) = y :: l; rw [ih]
  have W := WalksU.zipG (prog := prog) (w := w) (A := A) hh (its := numb (s.heap.objs.size + 1) [y]) (q := (s.heap.objs.size, x)) D (by show (numb s.heap.objs.size [x, y]).length ≤ 100; rw [numb_length]; exact hsmall) (fun p hp => hn p.2 (numb_mem (l := [x, y]) hp).2.2)
  rw [← hcons] at W
  have hLs : env.locals < s.heap.objs.size := F.ns.lt
  have F' := F.keeps keepH
  have N' := News.grown N keepH
  have wsNew : ∀ b ∈ (zws s.heap.objs.size [x, y]).map (·.1), s.heap.objs.size ≤ b := by
    intro b hb
    simp only [zws, List.map_cons, List.mem_cons, List.map_map] at hb
    rcases hb with rfl | rfl | rfl | hb
    · lia
    · lia
    · lia
    · obtain ⟨p, hp, rfl⟩ := List.mem_map.mp hb
      exact (numb_mem hp).1
  refine ⟨_, _, _, x.n, _, _, _, zws s.heap.objs.size [x, y], keep, news, (fun i m₂ => ∃ vx vy, x.P i vx ∧ y.P i vy ∧ m₂ a = some vx ∧ m₂ b = some vy), J, rfl, KTurns.ofWalksU (elts := [.Name a pa, .Name b pb]) (k := kk) (pos := tp) W.bound, (fun s Q E st q => W.self 0 s Q E st q), ?_, ?_, ?_, ?_, ?_, ?_, hk, hsz, zst, F', N', h0, ?_, ?_, ?_⟩
  · intro i h st
    obtain ⟨old, ⟨n, ho⟩, _⟩ := st.tov
    obtain ⟨l, a, b⟩ := objs_of fun p hp => (st.st p hp).here
    have e1 : ∃ o : Obj, h.get? (s.heap.objs.size + [x, y].length + 2) = some o ∧ o.cls = .type "zip" := ⟨_, st.z, rfl⟩
    have e2 : ∃ o : Obj, h.get? (s.heap.objs.size + [x, y].length) = some o ∧ o.cls = .type "tuple" := ⟨_, st.ti, rfl⟩
    have e3 : ∃ o : Obj, h.get? (s.heap.objs.size + [x, y].length + 1) = some o ∧ o.cls = .type "tuple" := ⟨_, ho, rfl⟩
    obtain ⟨q1, g1, k1⟩ := e1
    obtain ⟨q2, g2, k2⟩ := e2
    obtain ⟨q3, g3, k3⟩ := e3
    refine ⟨(_, q1) :: (_, q2) :: (_, q3) :: l, ⟨⟨rfl, k1⟩, ⟨rfl, k2⟩, ⟨rfl, k3⟩, a⟩, fun p hp => ?_⟩
    rcases List.mem_cons.mp hp with rfl | hp
    · exact g1
    rcases List.mem_cons.mp hp with rfl | hp
    · exact g2
    rcases List.mem_cons.mp hp with rfl | hp
    · exact g3
    exact b p hp
  · intro b hb
    refine ⟨?_, ktu_new F (wsNew b hb)⟩
    simp only [zws, List.map_cons, List.mem_cons, List.map_map] at hb
    rcases hb with rfl | rfl | rfl | hb
    · simp [zfp]
    · simp [zfp]
    · simp [zfp]
    · exact List.mem_append_right _ (List.mem_append_left _ hb)
  · intro b hb
    rcases List.mem_append.mp hb with hb | hb
    · have hb' : b = s.heap.objs.size + [x, y].length + 2 ∨ b = s.heap.objs.size + [x, y].length + 1 := by simpa using hb
      rcases hb' with rfl | rfl <;> simp [zws]
    · simp only [zws, List.map_cons, List.mem_cons, List.map_map]
      exact .inr (.inr (.inr hb))
  · intro b hb
    rcases List.mem_append.mp hb with hb | hb
    · have hb' : b = s.heap.objs.size + [x, y].length + 2 ∨ b = s.heap.objs.size + [x, y].length ∨ b = s.heap.objs.size + [x, y].length + 1 := by simpa using hb
      rcases hb' with rfl | rfl | rfl <;> (left; simp [zws])
    rcases List.mem_append.mp hb with hb | hb
    · left
      simp only [zws, List.map_cons, List.mem_cons, List.map_map]
      exact .inr (.inr (.inr hb))
    · obtain ⟨p, hp, hb⟩ := List.mem_flatMap.mp hb
      exact .inr (hfp p.2 (numb_mem hp).2.2 b hb)
  · intro hI
    rcases List.mem_append.mp hI with hb | hb
    · have hb' : env.locals = s.heap.objs.size + [x, y].length + 2 ∨ env.locals = s.heap.objs.size + [x, y].length ∨ env.locals = s.heap.objs.size + [x, y].length + 1 := by simpa using hb
      rcases hb' with e | e | e
      · exact Nat.ne_of_lt (Nat.lt_of_lt_of_le hLs (by lia)) e
      · exact Nat.ne_of_lt (Nat.lt_of_lt_of_le hLs (by lia)) e
      · exact Nat.ne_of_lt (Nat.lt_of_lt_of_le hLs (by lia)) e
    rcases List.mem_append.mp hb with hb | hb
    · obtain ⟨p, hp, e⟩ := List.mem_map.mp hb
      exact Nat.ne_of_lt (Nat.lt_of_lt_of_le hLs (numb_mem hp).1) e.symm
    · obtain ⟨p, hp, hb⟩ := List.mem_flatMap.mp hb
      exact (hfpL p hp _ hb).2 rfl
  · intro p hp hI
    exact Nat.lt_irrefl _ (Nat.lt_of_lt_of_le (Heap.lt_size (N p hp).1) (wsNew _ hI))
  · rintro C i v s' m' Q' E' ⟨T, vals, rfl, ⟨_, hd⟩, hT⟩ hns _ _ hQ
    rw [hmap] at hd
    generalize hvl : vals.toList = vl at hd
    cases hd with
    | @cons _ vx _ _ hx hd =>
    cases hd with
    | @cons _ vy _ _ hy hd =>
    cases hd
    have hvals : vals = #[vx, vy] := by rw [← Array.toArray_toList (xs := vals), hvl]
    subst hvals
    refine kcp_assign (env := compEnvC scope cl C env) hh hT (lookup_relabel_local hxa) (lookup_relabel_local hxb) (by simp [compEnvC, relabel, hkind]) hns fun h₄ tk₄ hn₄ hs₄ => ?_
    exact hQ h₄ tk₄ _ hn₄ ⟨_, _, hx, hy, by simp [hab], by simp⟩ hs₄
  · rintro C oC D i ys gr m₂ h tk E' hi hyl ⟨vx, vy, hx, hy, e1, e2⟩ hC hJ F₁ hCD off
    exact step _ (fun p hp => Heap.lt_size (N p hp).1) C oC D i ys gr m₂ vx vy h tk E' hi hyl hx hy e1 e2 hC hJ F₁ hCD off
  · exact fin _
end
theorem rel_snoc {Rel : Nat → Value → Prop} {ys : List Value} {i : Nat} {v : Value} (hl : ys.length = i) (h : ∀ (j : Nat) (y : Value), ys[j]? = some y → Rel j y) (hv : Rel i v) : ∀ (j : Nat) (y : Value), (ys ++ [v])[j]? = some y → Rel j y := by
  intro j y hy
  subst hl
  rcases Nat.lt_trichotomy j ys.length with hj | hj | hj
  · rw [List.getElem?_append_left hj] at hy
    exact h j y hy
  · subst hj
    rw [List.getElem?_append_right (Nat.le_refl _), Nat.sub_self] at hy
    have e : v = y := by simpa using hy
    exact e ▸ hv
  · rw [List.getElem?_eq_none (by simp; lia)] at hy
    cases hy

/- two lists of the same texts are equal -/
open PyProof.V in
theorem ts_canLay : ∀ xs : List Str, (∀ x ∈ xs, PyData.strOk x = true) → PyData.canLayAll0 (xs.map PyData.str) = true
  | [], _ => rfl
  | x :: r, h => by simp [PyData.canLayAll0, PyData.canLay0, ts_canLay r (fun y hy => h y (.tail _ hy)), h x (.head _)]
theorem ts_depth : ∀ xs : List Str, PyData.depthAll (xs.map PyData.str) = 0
  | [] => rfl
  | _ :: r => by simp [PyData.depthAll, PyData.depth, ts_depth r]
theorem ts_shaped (xs : List Str) (h : ∀ x ∈ xs, PyData.strOk x = true) : SeqAt.shaped (.list (xs.map PyData.str)) = true := by
  simp [SeqAt.shaped, PyData.canLay0, PyData.depth, ts_canLay xs h, ts_depth]
theorem ts_same : ∀ xs : List Str, PySem.Spec.sameAll (xs.map PyData.str) (xs.map PyData.str) = true
  | [] => by simp [PySem.Spec.sameAll]
  | x :: r => by simp [PySem.Spec.sameAll, PySem.Spec.same, ts_same r]
theorem ts_carried : ∀ {vs : List Value} {xs : List Str}, Txts vs xs → CarriedAll vs (xs.map PyData.str)
  | _, _, .nil => .nil
  | _, _, .cons _ t r => .cons (.str _ t) (ts_carried r)
/- ascii texts -/
def Asc (x : Str) : Prop := ∀ c ∈ x.cps.toList, c < 128
theorem Asc.ok {x : Str} (h : Asc x) : PyData.strOk x = true := by
  unfold PyData.strOk
  rw [← Array.all_toList, List.all_eq_true]
  exact fun c hc => decide_eq_true (Nat.lt_trans (h c hc) (by decide))
theorem Asc.app {x y : Str} (hx : Asc x) (hy : Asc y) : Asc (x ++ y) := by
  intro c hc
  have hc' : c ∈ (x.cps ++ y.cps).toList := hc
  rw [Array.toList_append] at hc'
  rcases List.mem_append.mp hc' with h | h
  · exact hx c h
  · exact hy c h
theorem Asc.nil : Asc (Str.ofString "") := by
  intro c hc
  rw [show (Str.ofString "").cps.toList = [] by decide] at hc
  cases hc
theorem Asc.one {c : Nat} (h : c < 128) : Asc ⟨#[c]⟩ := by
  intro d hd
  have : d = c := by simpa using hd
  rw [this]; exact h
theorem Asc.strip {x : Str} (h : Asc x) : Asc (Txt.strip x) := by
  unfold Txt.strip Txt.stripBy
  split
  · exact h
  · intro c hc
    refine h c ?_
    unfold PySem.stripped Builtin.Str.strSub at hc
    rw [Array.toList_extract] at hc
    exact List.mem_of_mem_drop (List.mem_of_mem_take (by simpa [List.extract] using hc))
theorem PS.step_asc (p : PS) {c : Nat} (hc : c < 128) (h1 : ∀ y ∈ p.res, Asc y) (h2 : Asc p.part) : (∀ y ∈ (p.step c).res, Asc y) ∧ Asc (p.step c).part := by
  have h3 : Asc (p.part ++ (⟨#[c]⟩ : Str)) := h2.app (.one hc)
  have h4 : ∀ y ∈ p.res ++ [p.part], Asc y := by
    intro y hy
    rcases List.mem_append.mp hy with hy | hy
    · exact h1 y hy
    · rw [List.mem_singleton.mp hy]; exact h2
  unfold PS.step
  repeat' split
  all_goals first | exact ⟨h1, h3⟩ | exact ⟨h1, h2⟩ | exact ⟨h4, .nil⟩
theorem PS.run_asc : ∀ (cs : List Nat) (p : PS), (∀ c ∈ cs, c < 128) → (∀ y ∈ p.res, Asc y) → Asc p.part → ∀ y ∈ (p.run cs).fin, Asc y
  | [], p, _, h1, h2 => by
    intro y hy
    have hy' : y ∈ p.fin := hy
    unfold PS.fin at hy'
    split at hy'
    · exact h1 y hy'
    · rcases List.mem_append.mp hy' with hy | hy
      · exact h1 y hy
      · rw [List.mem_singleton.mp hy]; exact h2
  | c :: cs, p, h, h1, h2 => by
    obtain ⟨a, b⟩ := p.step_asc (h c (.head _)) h1 h2
    exact PS.run_asc cs (p.step c) (fun d hd => h d (.tail _ hd)) a b
theorem fin_ok {X : Str} (h : X.cps.all (· < 128) = true) : ∀ y ∈ (PS.run PS.start X.cps.toList).fin.map Txt.strip, PyData.strOk y = true := by
  intro y hy
  obtain ⟨z, hz, rfl⟩ := List.mem_map.mp hy
  refine (PS.run_asc X.cps.toList PS.start ?_ (fun _ h => nomatch h) .nil z hz).strip.ok
  intro c hc
  rw [← Array.all_toList, List.all_eq_true] at h
  exact of_decide_eq_true (h c hc)
section
variable {prog : Program} {w : World} {A : Around} {E : Value → Shared → Prop} {s : Shared} {a b : Addr} {xs ys : List Value} {ns : List Str} {Q : Value → Shared → Prop}
theorem eq_txts (ha : s.heap.IsList a xs.toArray) (hb : s.heap.IsList b ys.toArray) (hi : Txts xs ns) (hj : Txts ys ns) (hok : ∀ x ∈ ns, PyData.strOk x = true) (hu : A.units + 64 < cLine) (h : Q (.bool true) s) :
    wpAny (model prog w) A (compareOp .Eq (.ref a) (.ref b)) Q E s :=
  eq_dataH_same (reads_newData ha (ts_carried hi)) (reads_newData hb (ts_carried hj)) (ts_shaped _ hok) (ts_shaped _ hok) hu (SeqAt.noMix_of_shape (.list .str) rfl _ _ (list_map_has fun _ => rfl) (list_map_has fun _ => rfl)) (by rw [show PySem.Spec.same (.list (ns.map PyData.str)) (.list (ns.map PyData.str)) = true by simp only [PySem.Spec.same]; exact ts_same ns]; exact h)
end
/- a name that the turn has not stored -/
theorem stIf {z x : Str} {a b c : Option Value} (h : z ≠ x) (r : b = c) : (if z = x then a else b) = c := (if_neg h).trans r
theorem stCons {rest : Str → Option Value} {z x : Str} {v : Value} {l : List (Str × Value)} {c : Option Value} (h : z ≠ x) (r : kstB rest l z = c) : kstB rest ((x, v) :: l) z = c := (if_neg h).trans r
theorem stNil {rest : Str → Option Value} {z : Str} {c : Option Value} (r : rest z = c) : kstB rest [] z = c := r
theorem stCon {l : List Str} {z : Str} {a b c : Option Value} (h : l.contains z = false) (r : b = c) : (if l.contains z = true then a else b) = c := (if_neg (by rw [h]; exact Bool.false_ne_true)).trans r

section
set_option maxRecDepth 100000
theorem fillAll : (PySem.Challenge.rw_pg0162_01 = PySem.Challenge.rw_pg0162_01) ∧ (Mine.hd.heap_39 = Mine.hd.heap_39) := by
  k_fill
  exact ⟨rfl, rfl⟩
local macro_rules | `(tactic| walk_at $s:str) => `(tactic| k_extra $s)
local macro_rules | `(tactic| k_ne) => `(tactic| walk_at "NE")
local macro_rules | `(tactic| k_mem) => `(tactic| walk_at "MEM")
local macro_rules | `(tactic| k_all) => `(tactic| walk_at "ALL")

set_option maxHeartbeats 8000000
def SpecD (w : World) (p : Program) (loose : List Str) (mean : ExcName → Option Value) (mg mb : Str → Option Value) (f : Addr) (need : Led) (d : Addr) (vs : List Value) (ds : List Int) (nn k : Nat) : Prop :=
  ∀ (dp un : Nat) (gd : Option (List Code)) (cn : Str) (cs : Scope) (a : Addr) (ccd : Value) (cl : List (Str × Addr)) (outer : List Env) (A₀ : Around) (base h₀ : Heap) (L : Addr) (m : Str → Option Value) (s : Shared) (Q E : Value → Shared → Prop) (news : Led) (i j : Int) (t1 t2 : Tok),
    Below A₀ base outer h₀ → Fr h₀ L s.heap m → (Mine.hd.heap_39 w.params).In h₀ → News h₀ L s.heap news → Top p loose mean mg mb h₀ → cs.kind = .function → h₀.IsList d vs.toArray → (∀ q ∈ need, q ∈ news) →
    0 ≤ i → i < j → j ≤ (ds.length : Int) → (j - i).toNat ≤ k → dp + k < 1000 → un + 8 * k < 9900 →
    (∀ tk h' tk', Fr h₀ L h' m → News h₀ L h' news → Q (.int (digVal nn (seg ds i.toNat j.toNat)) tk) { s with heap := h', toks := tk' }) →
    wpAny (model PySem.Challenge.pw_pg0162_01 w) (ktrTop dp un gd cn cs L a ccd cl outer) (call (.ref f) [.int i t1, .int j t2]) Q E s
theorem specD_use {w : World} {p : Program} {loose : List Str} {mean : ExcName → Option Value} {mg mb : Str → Option Value} {f : Addr} {need : Led} {d : Addr} {vs : List Value} {ds : List Int} {nn k : Nat}
    {dp un : Nat} {gd : Option (List Code)} {cn : Str} {cs : Scope} {a : Addr} {ccd : Value} {cl : List (Str × Addr)} {outer : List Env} {A₀ : Around} {base h₀ : Heap} {L : Addr} {m : Str → Option Value} {s : Shared} {Q E : Value → Shared → Prop} {news : Led} {i j : Int} {t1 t2 : Tok}
    (S : SpecD w p loose mean mg mb f need d vs ds nn k)
    (B : Below A₀ base outer h₀) (F : Fr h₀ L s.heap m) (X : (Mine.hd.heap_39 w.params).In h₀) (N : News h₀ L s.heap news) (T : Top p loose mean mg mb h₀) (hk : cs.kind = .function) (hd : h₀.IsList d vs.toArray) (hn : ∀ q ∈ need, q ∈ news)
    (h1 : 0 ≤ i) (h2 : i < j) (h3 : j ≤ (ds.length : Int)) (h4 : (j - i).toNat ≤ k) (h5 : dp + k < 1000) (h6 : un + 8 * k < 9900)
    (hret : ∀ tk h' tk', Fr h₀ L h' m → News h₀ L h' news → Q (.int (digVal nn (seg ds i.toNat j.toNat)) tk) { s with heap := h', toks := tk' }) :
    wpAny (model PySem.Challenge.pw_pg0162_01 w) (ktrTop dp un gd cn cs L a ccd cl outer) (call (.ref f) [.int i t1, .int j t2]) Q E s := S _ _ _ _ _ _ _ _ _ _ _ _ _ _ _ _ _ _ _ _ _ _ B F X N T hk hd hn h1 h2 h3 h4 h5 h6 hret
theorem specD_all {w : World} {p : Program} {loose : List Str} {mean : ExcName → Option Value} {mg mb : Str → Option Value} {f : Addr} {need : Led} {d : Addr} {vs : List Value} {ds : List Int} {nn : Nat}
    (step : ∀ k, SpecD w p loose mean mg mb f need d vs ds nn k → SpecD w p loose mean mg mb f need d vs ds nn (k + 1)) : ∀ k, SpecD w p loose mean mg mb f need d vs ds nn k
  | 0 => by
    intro dp un gd cn cs a ccd cl outer A₀ base h₀ L m s Q E news i j t1 t2 B F X N T hk hd hn h1 h2 h3 h4
    lia
  | k + 1 => step k (specD_all step k)
set_option pp.deepTerms.threshold 6 in
theorem spec_d2i {w : World} {mg mb : Str → Option Value} {p : Program} {loose : List Str} {mean : ExcName → Option Value}
  {dp un : Nat} {gd : Option (List Code)} {cn : Str} {cs : Scope} {a : Addr} {ccd : Value} {cl : List (Str × Addr)} {outer : List Env} {A₀ : Around} {base h₀ : Heap} {L : Addr} {m : Str → Option Value} {s : Shared} {Q E : Value → Shared → Prop}
  {news own t : Led} {d : Addr} {vs : List Value} {ds : List Int} {nn : Nat} {tn : Tok}
  (cx : Cx w p loose mean mg mb A₀ base outer h₀ s.heap L m cs) (N : News h₀ L s.heap news) (htb : TB t) (hap : App news own t) (hown : Dis own t)
  (hd : s.heap.IsList d vs.toArray) (hi : IntsAre vs ds) (hn : nn ≤ 64) (hlen : ds.length ≤ 64) (hds : ∀ x ∈ ds, 0 ≤ x ∧ x < 2 ^ nn)
  (hdp : dp + 80 < recursionLimit) (hun : un + 800 < cLine)
  (hret : ∀ tk t' h' tk', TB t' → Fr h₀ L h' m → News h₀ L h' (own ++ t') → Dis own t' → Q (.int (digVal nn ds) tk) { s with heap := h', toks := tk' }) :
  wpAny (model PySem.Challenge.pw_pg0162_01 w) (ktrTop dp un gd cn cs L a ccd cl outer) (call (.ref 47) [.ref d, .int (nn : Int) tn]) Q E s := by
  k_with_none
  k_with "CJ" => (first | exact cj0 (by with_reducible assumption) | exact cj1 (by with_reducible assumption) | exact cj2 (by with_reducible assumption) | exact cj2z (by with_reducible assumption) | exact cj3 (by with_reducible assumption) | exact cj3z (by with_reducible assumption) | exact cj4 (by with_reducible assumption) | exact cj4z (by with_reducible assumption) | exact cj5 (by with_reducible assumption) | exact cj5z (by with_reducible assumption) | exact cj6 (by with_reducible assumption) | exact cj6z (by with_reducible assumption) | exact cj7 (by with_reducible assumption) | exact cj7z (by with_reducible assumption))
  k_with "NE" => ((refine neN ?_; (try dsimp only); first | walk_at "CJ" | exact Ne.symm (by walk_at "CJ") | exact Nat.ne_of_lt (by walk_at "CJ") | exact Nat.ne_of_gt (by walk_at "CJ") | exact neP (by walk_at "CJ") | exact Ne.symm (neP (by walk_at "CJ")) | exact neQ (by decide) | exact neR (by decide) | exact Ne.symm (neR (by decide)) | lia))
  k_with "MEM" => (k_dflt assumption)
  k_with "ALL" => ((refine' TB.off (by assumption) (by k_asm) (by k_mem) (by first | (((intro _ zh9; (repeat (first | exact zh9 | exact List.mem_append_right _ zh9 | refine' List.Mem.tail _ ?_)))); done) | fail) (by first | ((first | (intro _ zh9; cases zh9; done) | (intro _ zh9; simp_all)); done) | fail)))
  k_with "ALL" => (first | assumption | exact ofAllLt (by assumption) | exact ofAllLt (allLt_left (by assumption)) | (refine' forallApp ?_ ?_ <;> k_all))
  k_with "ROOM" => (first | lia | ((try simp only [depth_under_make, depth_under_kw, depth_in1, depth_deeper, depth_caller, recursionLimit, units_in1, units_deeper, Around.mark_units, units_caller, cLine] at *); (try dsimp only [ktrTop] at *); lia))
  k_with "TAILIN" => ((intro _ zh9; (try simp only [List.nil_append] at zh9); (repeat (first | exact zh9 | refine' List.Mem.tail _ ?_))))
  k_with "SUBL" => (((try simp only [List.cons_append, List.nil_append]); (repeat (refine List.forall_mem_cons.mpr ⟨by k_mem, ?_⟩)); first | exact List.forall_mem_nil _ | walk_at "TAILIN"))
  k_with "CX" => (exact ⟨by k_asm, by k_asm, by k_asm, by k_asm, by first | exact rfl | assumption, by assumption, by assumption⟩)
  k_with "APP" => ((repeat (first | exact App.nil | exact App.gen _ _ | apply App.cons)))
  k_with "DIS" => ((repeat (first | exact Dis.nil | assumption | (refine' Dis.cons ?_ ?_; focus (first | assumption | k_all)))))
  k_with "LEN" => (first | lia | ((try simp only [List.length_reverse, List.length_append, List.length_map, List.length_cons, List.length_nil, digs_length]); lia))
  k_with "call builtin:list.append" => ((k_here; k_dflt ((try dsimp only); refine' append_K (by k_asm) (by k_asm) (by k_upd) ?_ (by first | ((first | size_fits | (rw [sizeLine_eq]; simp only [List.size_toArray]; lia)); done) | fail)); intro _ _ zN9; (try simp only [List.push_toArray] at zN9); (try k_sweep)))
  k_with "OFF1" => ((repeat (first | exact List.forall_mem_nil _ | (refine' List.forall_mem_cons.mpr ⟨?_, ?_⟩; focus k_ne) | assumption | exact ofAllLt (by assumption) | k_all)))
  k_with "OFF" => ((refine' offSwap ?_; (repeat (first | exact List.forall_mem_nil _ | (refine' List.forall_mem_cons.mpr ⟨?_, ?_⟩; focus walk_at "OFF1")))))
  k_with "call builtin:list.reverse" => ((k_here; k_dflt ((try dsimp only); refine' kl_reverseU (by k_asm) (by k_asm) (by k_upd) (by exact rev_arr _) (by exact szl (by assumption)) ?_); intro _ _ _; (try k_sweep)))
  k_with "call type:list" => ((k_here; k_dflt (refine' list_revK (by exact rfl) (by k_asm) (by k_asm) (by first | ((first | k_all | fail); done) | fail) (by is_list) (by l_ints) (by first | ((walk_at "LEN"); done) | fail) ?_; intro _ _ _ _ _ _ _ _ _; (try k_sweep))))
  k_with "call builtin:len" => ((k_here; k_dflt (refine' len_ints (by is_list) (by l_ints) (by first | ((first | exact digs_length _ _ _ | exact rfl); done) | fail) (by lia) ?_; (try dsimp only))))
  k_with "SUMLEN" => (((try simp only [digs_length, List.length_append, List.length_reverse, List.length_map]); (simp only [sizeLine_eq]); first | lia | (rename_i e2' e3'; simp_all; lia)))
  k_with "binaryOp Add ref ref" => ((k_here; (with_reducible show wpAny _ _ (binaryOp _ (Value.ref _) (Value.ref _)) _ _ _); k_dflt ((try dsimp only); refine' kmk_add_ints (by k_asm) (by k_asm) (by kmk_list) (by kmk_list) (by l_ints) (by l_ints) ?_ (by first | ((first | walk_at "SUMLEN" | fail); done) | fail)); intro _ _ _ _ _ zl1 _; (try k_lt zl1); (try k_sweep)))
  k_with "TAILIN1" => ((repeat (first | assumption | refine' List.Mem.tail _ ?_)))
  k_with "MEMU" => ((repeat (first | exact List.mem_append_left _ (by assumption) | refine' List.Mem.tail _ ?_)))
  k_with "ALLIN" => ((repeat (first | exact List.forall_mem_nil _ | refine List.forall_mem_cons.mpr ⟨by k_mem, ?_⟩)))
  k_with "call ref" => ((k_here; k_dflt (refine' specD_use (by assumption) (by k_asm) (by k_asm) (by k_asm) (by k_asm) (by k_asm) (by first | ((first | exact rfl | assumption); done) | fail) (by assumption) (by first | ((walk_at "ALLIN"); done) | fail) (by first | ((walk_at "ROOM"); done) | fail) (by first | ((walk_at "ROOM"); done) | fail) (by first | ((walk_at "ROOM"); done) | fail) (by first | ((walk_at "ROOM"); done) | fail) (by first | ((walk_at "ROOM"); done) | fail) (by first | ((walk_at "ROOM"); done) | fail) ?_; intro _ _ _ _ _; (try dsimp only); (try k_fold))))
  k_with "binaryOp LShift int int" => ((k_here; (with_reducible refine lshift_int (by exact (mul_small (by lia) (by lia) (by lia) (by lia)).1) (by exact seg_bits (by assumption) (by assumption) (by assumption) (mul_small (by lia) (by lia) (by lia) (by lia)).2) ?_)))
  w_on
  w_top on
  obtain ⟨B, F, X, T, hk, CA, CB⟩ := cx
  have hdp' : dp + 80 < 1000 := hdp
  have hun' : un + 800 < 9900 := hun
  have e9 := hap.eq
  subst e9
  have hgb : GotBack TB h₀ L m own s (fun v new => ∃ tk, v = .int (digVal nn ds) tk ∧ new = []) Q := by
    rintro _ _ t' h' tk' htb' ⟨tk, rfl, rfl⟩ F' N' dn dt
    exact hret tk t' h' tk' htb' F' N' dt
  clear hret
  first | k_dflt ((
        refine' enterC ?k1 ?k2 ?k3 ?k4 ?k5 ?k6 ?kA ?kF ?kK ?k7 ?kd ?k8 ?k9 ?kb ?kB ?kD ?kr ?_ ?c2 ?c3 ?c4
        (case kr => assumption); (case kA => exact rfl); (case kF => exact rfl); (case kK => assumption)
        (case k1 => k_asm); (case k2 => k_asm); (case k3 => k_asm); (case k4 => k_asm); (case k5 => k_asm); (case k6 => assumption)
        (case k7 => k_is); (case kd => exact rfl); (case k8 => k_is); (case k9 => walk_at "ROOM"); (case kb => exact BindsTo.of_eq rfl); (case kB => exact rfl); (case kD => decide +kernel); (case c2 => exact rfl); (case c3 => exact rfl); (case c4 => exact rfl))) | fail
  intro g' L' h' tk' cells' hkg F' N' Y' B' X' T' l1
  refine holdQ ?_
  intro QR hQR
  have hd' := listIn htb (newsSub N fun q hq => List.mem_append_right _ hq) hkg hd
  have hPA : @LT.lt Nat _ 42 L' := by obtain ⟨_, _, _, rfl, _⟩ := htb; exact l1 _ (.head _)
  clear hkg
  k_cells Y'
  simp only [List.cons_append, List.nil_append] at N'
  clear hgb N F B X T hd hown hap
  (try dsimp only)
  refine wpAny_execs_cons ?_
  k_dflt refine' nestDef_K ?d0 ?k0 ?a0 ?_
  case d0 => exact rfl
  case k0 => exact rfl
  case a0 => exact rfl
  k_dflt refine' nestA (pre := [_, _, _]) (t := t) F' N' htb ?hp T' ?C ?cd ?hl ?hc ?hq ?cl ?_
  case hp => first | k_all | fail
  case C => exact CA.keeps B'.stays
  case cd => exact rfl
  case hl => exact rfl
  case hc => exact rfl
  case hq => exact rfl
  case cl => exact rfl
  intro f' c' oc vs' tt ct' doc' h'' tk'' t' htb' F'' N'' hmc hdc hvc l2
  simp only [List.cons_append, List.nil_append] at N'' l2
  k_lt l2
  clear F' N' htb
  (try dsimp only)
  (try k_fold)
  k_steps
  · k_dflt refine' specD_use (need := [(f', _), (c', oc), (L' + 1 + 1 + 1, _), (L' + 1 + 1, _), (L' + 1, _)]) (k := ds.length) (nn := nn) (ds := ds) (d := d) (vs := vs) ?S ?B ?F ?X ?N ?T ?hk ?hd ?hn ?h1 ?h2 ?h3 ?h4 ?h5 ?h6 ?_
    case B => k_asm
    case F => k_asm
    case X => k_asm
    case N => k_asm
    case T => k_asm
    case hk => exact rfl
    case hd => assumption
    case hn => first | walk_at "ALLIN" | fail
    case h1 => walk_at "ROOM"
    case h2 => walk_at "ROOM"
    case h3 => walk_at "ROOM"
    case h4 => walk_at "ROOM"
    case h5 => walk_at "ROOM"
    case h6 => walk_at "ROOM"
    case S =>
      refine specD_all (fun k IH => ?_) _
      unfold SpecD
      intro dp un gd cn cs a ccd cl outer A₀ base h₀ L m s Q E news i j t1 t2 B F X N T hk hd hn h1 h2 h3 h4 h5 h6 hret
      have hm1 := hn _ (.head _)
      have hm2 := hn _ (.tail _ (.head _))
      have hm3 := hn _ (.tail _ (.tail _ (.head _)))
      have hm4 := hn _ (.tail _ (.tail _ (.tail _ (.head _))))
      have hm5 := hn _ (.tail _ (.tail _ (.tail _ (.tail _ (.head _)))))
      refine wpAny_call ?_
      first | k_dflt ((
            refine' code_nest ?k1 ?k2 ?k3 ?k4 ?k5 ?kA ?kF ?kK ?k6 ?k7 ?k8 ?k9 ?kB ?_ ?c2 ?c3 ?c4 ?c5
            (case kA => exact rfl); (case kF => exact rfl); (case kK => assumption); (case k1 => k_asm); (case k2 => k_asm); (case k3 => k_asm); (case k4 => k_asm); (case k5 => k_asm); (case k6 => k_mem); (case k7 => exact codeRec_news (by k_asm) (by k_mem) (by assumption) (by assumption))
            (case k8 => walk_at "ROOM"); (case k9 => exact BindsTo.of_eq rfl); (case c5 => decide); (case kB => exact locs rfl); (case c2 => exact rfl); (case c3 => exact rfl); (case c4 => exact rfl))) | fail
      intro g1 L1 h1' FG1 F1 N1 B1 X1 T1
      have hd1 := stays_list FG1.keep hd
      have hmid := mid_facts i j
      (try dsimp only)
      (try k_fold)
      clear hd
      k_steps
      all_goals first
        | exact cb_retI hret (seg_single (nn := nn) h1 (by lia) h3) (by k_asm) (by k_asm)
        | exact cb_retI hret (seg_join h1 (by lia) (by lia) h3) (by k_asm) (by k_asm)
    intro tk9 h9 tk9' F9 N9
    have e8 : digVal nn (seg ds (0 : Int).toNat ((ds.length : Int)).toNat) = digVal nn ds := by simp [seg]
    rw [e8]
    exact hQR _ _ <| Ret.intro [] htb' F9 N9 (by walk_at "TAILIN") ⟨_, rfl, rfl⟩
  · have e8 : digVal nn ds = 0 := by
      have : ds = [] := List.length_eq_zero_iff.mp (by lia)
      rw [this]; rfl
    exact hQR _ _ <| Ret.intro [] htb' (by k_asm) (by k_asm) (by walk_at "TAILIN") ⟨_, by rw [e8], rfl⟩

set_option maxHeartbeats 8000000
def SpecI (w : World) (p : Program) (loose : List Str) (mean : ExcName → Option Value) (mg mb : Str → Option Value) (f : Addr) (need : Led) (ad : Addr) (ep nn len k : Nat) : Prop :=
  ∀ (dp un : Nat) (gd : Option (List Code)) (cn : Str) (cs : Scope) (a : Addr) (ccd : Value) (cl : List (Str × Addr)) (outer : List Env) (A₀ : Around) (base h₀ : Heap) (L : Addr) (m : Str → Option Value) (s : Shared) (Q E : Value → Shared → Prop) (news : Led) (x i j : Int) (t0 t1 t2 : Tok) (vs : List Value) (ds : List Int),
    Below A₀ base outer h₀ → Fr h₀ L s.heap m → (Mine.hd.heap_39 w.params).In h₀ → News h₀ L s.heap ((ad, W.listOf vs.toArray ep) :: news) → Top p loose mean mg mb h₀ → cs.kind = .function → (∀ q ∈ need, q ∈ news) → (∀ q ∈ news, q.1 ≠ ad) →
    IntsAre vs ds → ds.length = len → len ≤ 64 → 0 ≤ i → i < j → j ≤ (len : Int) → (j - i).toNat ≤ k → 0 ≤ x → x < 2 ^ (nn * (j - i).toNat) → dp + k < 1000 → un + 8 * k < 9900 →
    (∀ h' tk' vs', IntsAre vs' (putSeg ds i.toNat (digs nn (j - i).toNat x)) → Fr h₀ L h' m → News h₀ L h' ((ad, W.listOf vs'.toArray ep) :: news) → Q .none { s with heap := h', toks := tk' }) →
    wpAny (model PySem.Challenge.pw_pg0162_01 w) (ktrTop dp un gd cn cs L a ccd cl outer) (call (.ref f) [.int x t0, .int i t1, .int j t2]) Q E s
theorem specI_use {w : World} {p : Program} {loose : List Str} {mean : ExcName → Option Value} {mg mb : Str → Option Value} {f : Addr} {need : Led} {ad : Addr} {ep nn len k : Nat}
    {dp un : Nat} {gd : Option (List Code)} {cn : Str} {cs : Scope} {a : Addr} {ccd : Value} {cl : List (Str × Addr)} {outer : List Env} {A₀ : Around} {base h₀ : Heap} {L : Addr} {m : Str → Option Value} {s : Shared} {Q E : Value → Shared → Prop} {news news' : Led} {x i j : Int} {t0 t1 t2 : Tok} {vs : List Value} {ds : List Int}
    (S : SpecI w p loose mean mg mb f need ad ep nn len k)
    (B : Below A₀ base outer h₀) (F : Fr h₀ L s.heap m) (X : (Mine.hd.heap_39 w.params).In h₀) (N : News h₀ L s.heap news') (hs : ∀ q ∈ (ad, W.listOf vs.toArray ep) :: news, q ∈ news') (T : Top p loose mean mg mb h₀) (hk : cs.kind = .function) (hn : ∀ q ∈ need, q ∈ news) (ho : ∀ q ∈ news, q.1 ≠ ad)
    (hi : IntsAre vs ds) (hl : ds.length = len) (hl2 : len ≤ 64) (h1 : 0 ≤ i) (h2 : i < j) (h3 : j ≤ (len : Int)) (h4 : (j - i).toNat ≤ k) (hx : 0 ≤ x) (hx1 : x < 2 ^ (nn * (j - i).toNat)) (h5 : dp + k < 1000) (h6 : un + 8 * k < 9900)
    (hret : ∀ h' tk' vs', IntsAre vs' (putSeg ds i.toNat (digs nn (j - i).toNat x)) → (putSeg ds i.toNat (digs nn (j - i).toNat x)).length = len → Fr h₀ L h' m → News h₀ L h' ((ad, W.listOf vs'.toArray ep) :: news) → Q .none { s with heap := h', toks := tk' }) :
    wpAny (model PySem.Challenge.pw_pg0162_01 w) (ktrTop dp un gd cn cs L a ccd cl outer) (call (.ref f) [.int x t0, .int i t1, .int j t2]) Q E s :=
  S _ _ _ _ _ _ _ _ _ _ _ _ _ _ _ _ _ _ _ _ _ _ _ _ _ _ B F X (newsSub N hs) T hk hn ho hi hl hl2 h1 h2 h3 h4 hx hx1 h5 h6 fun h' tk' vs' hi' F' N' => hret h' tk' vs' hi' (by rw [putSeg_length (by rw [digs_length]; lia)]; exact hl) F' N'
theorem specI_all {w : World} {p : Program} {loose : List Str} {mean : ExcName → Option Value} {mg mb : Str → Option Value} {f : Addr} {need : Led} {ad : Addr} {ep nn len : Nat}
    (step : ∀ k, SpecI w p loose mean mg mb f need ad ep nn len k → SpecI w p loose mean mg mb f need ad ep nn len (k + 1)) : ∀ k, SpecI w p loose mean mg mb f need ad ep nn len k
  | 0 => by
    intro dp un gd cn cs a ccd cl outer A₀ base h₀ L m s Q E news x i j t0 t1 t2 vs ds B F X N T hk hn ho hi hl hl2 h1 h2 h3 h4
    lia
  | k + 1 => step k (specI_all step k)
set_option pp.deepTerms.threshold 4 in
theorem spec_i2d {w : World} {mg mb : Str → Option Value} {p : Program} {loose : List Str} {mean : ExcName → Option Value}
  {dp un : Nat} {gd : Option (List Code)} {cn : Str} {cs : Scope} {a : Addr} {ccd : Value} {cl : List (Str × Addr)} {outer : List Env} {A₀ : Around} {base h₀ : Heap} {L : Addr} {m : Str → Option Value} {s : Shared} {Q E : Value → Shared → Prop}
  {news own t : Led} {x : Int} {nn : Nat} {tx tn : Tok}
  (cx : Cx w p loose mean mg mb A₀ base outer h₀ s.heap L m cs) (N : News h₀ L s.heap news) (htb : TB t) (hap : App news own t) (hown : Dis own t)
  (hn1 : 1 ≤ nn) (hn : nn ≤ 64) (hx : 0 ≤ x) (k : Nat) (hkk : ((Builtin.Int.intBits x : Int) + (nn : Int) - 1).fdiv (nn : Int) = (k : Int)) (hk64 : k ≤ 64) (hxk : x < 2 ^ (nn * k))
  (hdp : dp + 80 < recursionLimit) (hun : un + 800 < cLine)
  (hret : ∀ r vs ep t' h' tk', IntsAre vs (digs nn k x) → TB t' → Fr h₀ L h' m → News h₀ L h' ((r, W.listOf vs.toArray ep) :: (own ++ t')) → (∀ q ∈ own, q.1 ≠ r) → Dis own t' → Q (.ref r) { s with heap := h', toks := tk' }) :
  wpAny (model PySem.Challenge.pw_pg0162_01 w) (ktrTop dp un gd cn cs L a ccd cl outer) (call (.ref 40) [.int x tx, .int (nn : Int) tn]) Q E s := by
  k_with_none
  k_with "CJ" => (first | exact cj0 (by with_reducible assumption) | exact cj1 (by with_reducible assumption) | exact cj2 (by with_reducible assumption) | exact cj2z (by with_reducible assumption) | exact cj3 (by with_reducible assumption) | exact cj3z (by with_reducible assumption) | exact cj4 (by with_reducible assumption) | exact cj4z (by with_reducible assumption) | exact cj5 (by with_reducible assumption) | exact cj5z (by with_reducible assumption) | exact cj6 (by with_reducible assumption) | exact cj6z (by with_reducible assumption) | exact cj7 (by with_reducible assumption) | exact cj7z (by with_reducible assumption))
  k_with "NE" => ((refine neN ?_; (try dsimp only); first | walk_at "CJ" | exact Ne.symm (by walk_at "CJ") | exact Nat.ne_of_lt (by walk_at "CJ") | exact Nat.ne_of_gt (by walk_at "CJ") | exact neP (by walk_at "CJ") | exact Ne.symm (neP (by walk_at "CJ")) | exact neQ (by decide) | exact neR (by decide) | exact Ne.symm (neR (by decide)) | lia))
  k_with "MEM" => (k_dflt assumption)
  k_with "ALL" => ((refine' TB.off (by assumption) (by k_asm) (by k_mem) (by first | (((intro _ zh9; (repeat (first | exact zh9 | exact List.mem_append_right _ zh9 | refine' List.Mem.tail _ ?_)))); done) | fail) (by first | ((first | (intro _ zh9; cases zh9; done) | (intro _ zh9; simp_all)); done) | fail)))
  k_with "ALL" => (first | assumption | exact ofAllLt (by assumption) | exact ofAllLt (allLt_left (by assumption)) | (refine' forallApp ?_ ?_ <;> k_all))
  k_with "ROOM" => (first | lia | ((try simp only [depth_under_make, depth_under_kw, depth_in1, depth_deeper, depth_caller, recursionLimit, units_in1, units_deeper, Around.mark_units, units_caller, cLine] at *); (try dsimp only [ktrTop] at *); lia))
  k_with "TAILIN" => ((intro _ zh9; (try simp only [List.nil_append] at zh9); (repeat (first | exact zh9 | refine' List.Mem.tail _ ?_))))
  k_with "SUBL" => (((try simp only [List.cons_append, List.nil_append]); (repeat (refine List.forall_mem_cons.mpr ⟨by k_mem, ?_⟩)); first | exact List.forall_mem_nil _ | walk_at "TAILIN"))
  k_with "CX" => (exact ⟨by k_asm, by k_asm, by k_asm, by k_asm, by first | exact rfl | assumption, by assumption, by assumption⟩)
  k_with "APP" => ((repeat (first | exact App.nil | exact App.gen _ _ | apply App.cons)))
  k_with "DIS" => ((repeat (first | exact Dis.nil | assumption | (refine' Dis.cons ?_ ?_; focus (first | assumption | k_all)))))
  k_with "call ref" => ((k_here; k_dflt (refine' spec_d2i (by first | ((walk_at "CX"); done) | fail) (by k_asm) (by assumption) (by first | ((walk_at "APP"); done) | fail) (by first | ((walk_at "DIS"); done) | fail) (by is_list) (by l_ints) (by lia) (by first | ((walk_at "LEN"); done) | fail) (by assumption) (by first | ((walk_at "ROOM"); done) | fail) (by first | ((walk_at "ROOM"); done) | fail) ?_; intro _ _ _ _ _ _ zN9 _; (try simp only [List.cons_append, List.nil_append] at zN9); (try dsimp only); (try k_fold))))
  k_with "LEN" => (first | lia | ((try simp only [List.length_reverse, List.length_append, List.length_map, List.length_cons, List.length_nil, digs_length]); lia))
  k_with "call builtin:list.append" => ((k_here; k_dflt ((try dsimp only); refine' append_K (by k_asm) (by k_asm) (by k_upd) ?_ (by first | ((first | size_fits | (rw [sizeLine_eq]; simp only [List.size_toArray]; lia)); done) | fail)); intro _ _ zN9; (try simp only [List.push_toArray] at zN9); (try k_sweep)))
  k_with "OFF1" => ((repeat (first | exact List.forall_mem_nil _ | (refine' List.forall_mem_cons.mpr ⟨?_, ?_⟩; focus k_ne) | assumption | exact ofAllLt (by assumption) | k_all)))
  k_with "OFF" => ((refine' offSwap ?_; (repeat (first | exact List.forall_mem_nil _ | (refine' List.forall_mem_cons.mpr ⟨?_, ?_⟩; focus walk_at "OFF1")))))
  k_with "call builtin:list.reverse" => ((k_here; k_dflt ((try dsimp only); refine' kl_reverseU (by k_asm) (by k_asm) (by k_upd) (by exact rev_arr _) (by exact szl (by assumption)) ?_); intro _ _ _; (try k_sweep)))
  k_with "call type:list" => ((k_here; k_dflt (refine' list_revK (by exact rfl) (by k_asm) (by k_asm) (by first | ((first | k_all | fail); done) | fail) (by is_list) (by l_ints) (by first | ((walk_at "LEN"); done) | fail) ?_; intro _ _ _ _ _ _ _ _ _; (try k_sweep))))
  k_with "call builtin:len" => ((k_here; k_dflt (refine' len_ints (by is_list) (by l_ints) (by first | ((first | exact digs_length _ _ _ | exact rfl); done) | fail) (by lia) ?_; (try dsimp only))))
  k_with "SUMLEN" => (((try simp only [digs_length, List.length_append, List.length_reverse, List.length_map]); (simp only [sizeLine_eq]); first | lia | (rename_i e2' e3'; simp_all; lia)))
  k_with "binaryOp Add ref ref" => ((k_here; (with_reducible show wpAny _ _ (binaryOp _ (Value.ref _) (Value.ref _)) _ _ _); k_dflt ((try dsimp only); refine' kmk_add_ints (by k_asm) (by k_asm) (by kmk_list) (by kmk_list) (by l_ints) (by l_ints) ?_ (by first | ((first | walk_at "SUMLEN" | fail); done) | fail)); intro _ _ _ _ _ zl1 _; (try k_lt zl1); (try k_sweep)))
  k_with "TAILIN1" => ((repeat (first | assumption | refine' List.Mem.tail _ ?_)))
  k_with "MEMU" => ((repeat (first | exact List.mem_append_left _ (by assumption) | refine' List.Mem.tail _ ?_)))
  k_with "ALLIN" => ((repeat (first | exact List.forall_mem_nil _ | refine List.forall_mem_cons.mpr ⟨by k_mem, ?_⟩)))
  k_with "ALL" => (assumption)
  k_with "binaryOp LShift int int" => ((k_here; (with_reducible refine lshift_int (by lia) (by assumption) ?_)))
  k_with "call ref" => ((k_here; k_dflt (refine' specI_use (by assumption) (by k_asm) (by k_asm) (by k_asm) (by k_asm) (by first | (((intro _ zh9; exact zh9)); done) | fail) (by k_asm) (by first | ((first | exact rfl | assumption); done) | fail) (by assumption) (by assumption) (by with_reducible assumption) (by assumption) (by assumption) (by first | ((walk_at "ROOM"); done) | fail) (by first | ((walk_at "ROOM"); done) | fail) (by first | ((walk_at "ROOM"); done) | fail) (by first | ((walk_at "ROOM"); done) | fail) (by assumption) (by assumption) (by first | ((walk_at "ROOM"); done) | fail) (by first | ((walk_at "ROOM"); done) | fail) ?_; intro zh9 _ _ _ _ _ _; (try dsimp only); (try k_fold))))
  w_on
  w_top on
  obtain ⟨B, F, X, T, hk, CA, CB⟩ := cx
  have hdp' : dp + 80 < 1000 := hdp
  have hun' : un + 800 < 9900 := hun
  have e9 := hap.eq
  subst e9
  have hgb : GotBack TB h₀ L m own s (fun v new => ∃ r vs ep, IntsAre vs (digs nn k x) ∧ v = .ref r ∧ new = [(r, W.listOf vs.toArray ep)]) Q := by
    rintro _ _ t' h' tk' htb' ⟨r, vs, ep, hi, rfl, rfl⟩ F' N' dn dt
    exact hret r vs ep t' h' tk' hi htb' F' N' (fun q hq => dn q hq _ (.head _)) dt
  clear hret
  first | k_dflt ((
        refine' enterC ?k1 ?k2 ?k3 ?k4 ?k5 ?k6 ?kA ?kF ?kK ?k7 ?kd ?k8 ?k9 ?kb ?kB ?kD ?kr ?_ ?c2 ?c3 ?c4
        (case kr => assumption); (case kA => exact rfl); (case kF => exact rfl); (case kK => assumption)
        (case k1 => k_asm); (case k2 => k_asm); (case k3 => k_asm); (case k4 => k_asm); (case k5 => k_asm); (case k6 => assumption)
        (case k7 => k_is); (case kd => exact rfl); (case k8 => k_is); (case k9 => walk_at "ROOM"); (case kb => exact BindsTo.of_eq rfl); (case kB => exact rfl); (case kD => decide +kernel); (case c2 => exact rfl); (case c3 => exact rfl); (case c4 => exact rfl))) | fail
  intro g' L' h' tk' cells' hkg F' N' Y' B' X' T' l1
  refine holdQ ?_
  intro QR hQR
  have hPB : @LT.lt Nat _ 35 L' := by obtain ⟨_, _, _, rfl, _⟩ := htb; exact l1 _ (.tail _ (.head _))
  clear hkg
  k_cells Y'
  simp only [List.cons_append, List.nil_append] at N'
  clear hgb N F B X T hown hap
  (try dsimp only)
  (try k_fold)
  k_steps
  rename_i o1 o2 o3 d1 d2 d3 lz hz ll D hD i1 n1 s1 e1 e2 e3 lD h2 o4 F2 N2 d4
  have e5 : (List.replicate (((Builtin.Int.intBits x : Int) + (nn : Int) - 1).fdiv (nn : Int)).toNat [(0 : Int)]).flatten = List.replicate k 0 := by rw [hkk]; simp
  rw [e5] at i1
  rw [e5] at e1
  have e6 : n1 = k := by rw [← e1]; simp
  subst e6
  clear e1 e2 e3
  k_dflt refine' nestDef_K ?d0 ?k0 ?a0 ?_
  case d0 => exact rfl
  case k0 => exact rfl
  case a0 => exact rfl
  k_dflt refine' nestB (pre := [_, _, _, _, _]) (t := t) F2 N2 htb ?hp T' ?C ?cd ?hl ?hc ?hq ?cl ?_
  case hp => first | k_all | fail
  case C => exact CB.keeps B'.stays
  case cd => exact rfl
  case hl => exact rfl
  case hc => exact rfl
  case hq => exact rfl
  case cl => exact rfl
  intro f' c' oc vs' tt ct' doc' h'' tk'' t' htb' F'' N'' hmc hdc hvc l2
  simp only [List.cons_append, List.nil_append] at N'' l2
  k_lt l2
  clear F2 N2 htb
  (try dsimp only)
  (try k_fold)
  k_steps
  · have hk1 := few_digs hx hxk (by assumption)
    k_dflt refine' specI_use (need := [(f', _), (c', oc), (L' + 1 + 1 + 1, _), (L' + 1 + 1, _), (L' + 1, _)]) (news := [(f', _), (L' + 1 + 1 + 1, _), (L' + 1 + 1, _), (L' + 1, _)] ++ t') (k := n1) (len := n1) (nn := nn) (ad := D) (ep := 0) (ds := List.replicate n1 0) ?S ?B ?F ?X ?N ?hs ?T ?hk ?hn ?ho ?hi ?hl ?hl2 ?h1 ?h2 ?h3 ?h4 ?hx ?hx1 ?h5 ?h6 ?_
    case B => k_asm
    case F => k_asm
    case X => k_asm
    case N => k_asm
    case T => k_asm
    case hk => exact rfl
    case hi => exact i1
    case hs => first | ((try simp only [List.cons_append, List.nil_append]); walk_at "SUBL") | fail
    case hn => first | ((try simp only [List.cons_append, List.nil_append]); walk_at "ALLIN") | fail
    case ho => first | ((try simp only [List.cons_append, List.nil_append]); k_all) | fail
    case hl => exact List.length_replicate
    case hl2 => exact hk64
    case h1 => exact Int.le_refl _
    case h2 => lia
    case h3 => exact Int.le_refl _
    case h4 => lia
    case hx => exact hx
    case hx1 => simpa using hxk
    case h5 => walk_at "ROOM"
    case h6 => walk_at "ROOM"
    case S =>
      refine specI_all (fun k IH => ?_) _
      unfold SpecI
      intro dp un gd cn cs a ccd cl outer A₀ base h₀ L m s Q E news y i j u0 u1 u2 vs ds B F X N T hk hn9 ho hi hl hl2 h1 h2 h3 h4 hy hy1 h5 h6 hret
      have hm1 := hn9 _ (.head _)
      have hm2 := hn9 _ (.tail _ (.head _))
      have hm3 := hn9 _ (.tail _ (.tail _ (.head _)))
      have hm4 := hn9 _ (.tail _ (.tail _ (.tail _ (.head _))))
      have hm5 := hn9 _ (.tail _ (.tail _ (.tail _ (.tail _ (.head _)))))
      have st := stepI (x := y) hn h1 h2 (by lia) hy hy1
      refine wpAny_call ?_
      first | k_dflt ((
            refine' code_nest ?k1 ?k2 ?k3 ?k4 ?k5 ?kA ?kF ?kK ?k6 ?k7 ?k8 ?k9 ?kB ?_ ?c2 ?c3 ?c4 ?c5
            (case kA => exact rfl); (case kF => exact rfl); (case kK => assumption); (case k1 => k_asm); (case k2 => k_asm); (case k3 => k_asm); (case k4 => k_asm); (case k5 => k_asm); (case k6 => k_mem); (case k7 => exact codeRec_news (by k_asm) (by k_mem) (by assumption) (by assumption))
            (case k8 => walk_at "ROOM"); (case k9 => exact BindsTo.of_eq rfl); (case c5 => decide); (case kB => exact locs rfl); (case c2 => exact rfl); (case c3 => exact rfl); (case c4 => exact rfl))) | fail
      intro g1 L1 h1' FG1 F1 N1 B1 X1 T1
      have a1 := st.hX0
      have a2 := st.hX1
      have a3 := st.sh0
      have a4 := st.up0
      have a5 := st.up1
      have a6 := st.lo0
      have a7 := st.lo1
      have a8 := st.bits
      have hmid := mid_facts i j
      (try dsimp only)
      (try k_fold)
      k_steps
      · refine hret _ _ _ ?_ (by k_asm) (by k_asm)
        rw [← putSeg_single h1 (by lia) (by lia) hy hy1]
        assumption
      · refine hret _ _ _ ?_ (by k_asm) (by k_asm)
        rw [← putSeg_join st h1 h2 (by lia)]
        assumption
    intro h9 tk9 vs9 hi9 hl9 F9 N9
    simp only [List.cons_append, List.nil_append] at N9
    rw [putSeg_whole] at hi9
    (try dsimp only)
    k_steps
    exact hQR _ _ <| Ret.intro [(D, _)] htb' (by k_asm) (by k_asm) (by walk_at "SUBL") ⟨_, _, _, hi9, rfl, rfl⟩
  · have e7 : digs nn n1 x = List.replicate n1 0 := by rw [‹x = 0›, digs_zero]
    exact hQR _ _ <| Ret.intro [(D, _)] htb' (by k_asm) (by k_asm) (by walk_at "SUBL") ⟨_, _, _, e7 ▸ i1, rfl, rfl⟩

set_option maxHeartbeats 8000000
abbrev tupII (x : Int) (t1 : Tok) (y : Int) (t2 : Tok) : Obj := { cls := .type "tuple", data := .seq #[.int x t1, .int y t2] }
set_option pp.deepTerms.threshold 4 in
theorem spec_d2n {w : World} {mg mb : Str → Option Value} {p : Program} {loose : List Str} {mean : ExcName → Option Value}
  {dp un : Nat} {gd : Option (List Code)} {cn : Str} {cs : Scope} {a : Addr} {ccd : Value} {cl : List (Str × Addr)} {outer : List Env} {A₀ : Around} {base h₀ : Heap} {L : Addr} {m : Str → Option Value} {s : Shared} {Q E : Value → Shared → Prop}
  {news : Led} {x b n : Int} {t0 t1 t2 : Tok}
  (cx : Cx w p loose mean mg mb A₀ base outer h₀ s.heap L m cs) (N : News h₀ L s.heap news)
  (hb : 0 < b) (hb2 : b < 2 ^ 64) (hbits : (Builtin.Int.intBits x : Int) - n ≤ 4000)
  (hdp : dp + 4 < recursionLimit) (hun : un + 100 < cLine)
  (hret : ∀ r t1 t2 h' tk', Fr h₀ L h' m → News h₀ L h' ((r, tupII (x.fdiv b) t1 (x.fmod b) t2) :: news) → (∀ q ∈ news, q.1 ≠ r) → Q (.ref r) { s with heap := h', toks := tk' }) :
  wpAny (model PySem.Challenge.pw_pg0162_01 w) (ktrTop dp un gd cn cs L a ccd cl outer) (call (.ref 26) [.int x t0, .int b t1, .int n t2]) Q E s := by
  k_with_none
  k_with "CJ" => (first | exact cj0 (by with_reducible assumption) | exact cj1 (by with_reducible assumption) | exact cj2 (by with_reducible assumption) | exact cj2z (by with_reducible assumption) | exact cj3 (by with_reducible assumption) | exact cj3z (by with_reducible assumption) | exact cj4 (by with_reducible assumption) | exact cj4z (by with_reducible assumption) | exact cj5 (by with_reducible assumption) | exact cj5z (by with_reducible assumption) | exact cj6 (by with_reducible assumption) | exact cj6z (by with_reducible assumption) | exact cj7 (by with_reducible assumption) | exact cj7z (by with_reducible assumption))
  k_with "NE" => ((refine neN ?_; (try dsimp only); first | walk_at "CJ" | exact Ne.symm (by walk_at "CJ") | exact Nat.ne_of_lt (by walk_at "CJ") | exact Nat.ne_of_gt (by walk_at "CJ") | exact neP (by walk_at "CJ") | exact Ne.symm (neP (by walk_at "CJ")) | exact neQ (by decide) | exact neR (by decide) | exact Ne.symm (neR (by decide)) | lia))
  k_with "MEM" => (k_dflt assumption)
  k_with "ALL" => ((refine' TB.off (by assumption) (by k_asm) (by k_mem) (by first | (((intro _ zh9; (repeat (first | exact zh9 | exact List.mem_append_right _ zh9 | refine' List.Mem.tail _ ?_)))); done) | fail) (by first | ((first | (intro _ zh9; cases zh9; done) | (intro _ zh9; simp_all)); done) | fail)))
  k_with "ALL" => (first | assumption | exact ofAllLt (by assumption) | exact ofAllLt (allLt_left (by assumption)) | (refine' forallApp ?_ ?_ <;> k_all))
  k_with "ROOM" => (first | lia | ((try simp only [depth_under_make, depth_under_kw, depth_in1, depth_deeper, depth_caller, recursionLimit, units_in1, units_deeper, Around.mark_units, units_caller, cLine] at *); (try dsimp only [ktrTop] at *); lia))
  k_with "TAILIN" => ((intro _ zh9; (try simp only [List.nil_append] at zh9); (repeat (first | exact zh9 | refine' List.Mem.tail _ ?_))))
  k_with "SUBL" => (((try simp only [List.cons_append, List.nil_append]); (repeat (refine List.forall_mem_cons.mpr ⟨by k_mem, ?_⟩)); first | exact List.forall_mem_nil _ | walk_at "TAILIN"))
  k_with "CX" => (exact ⟨by k_asm, by k_asm, by k_asm, by k_asm, by first | exact rfl | assumption, by assumption, by assumption⟩)
  k_with "APP" => ((repeat (first | exact App.nil | exact App.gen _ _ | apply App.cons)))
  k_with "DIS" => ((repeat (first | exact Dis.nil | assumption | (refine' Dis.cons ?_ ?_; focus (first | assumption | k_all)))))
  k_with "call ref" => ((k_here; k_dflt (refine' spec_d2i (by first | ((walk_at "CX"); done) | fail) (by k_asm) (by assumption) (by first | ((walk_at "APP"); done) | fail) (by first | ((walk_at "DIS"); done) | fail) (by is_list) (by l_ints) (by lia) (by first | ((walk_at "LEN"); done) | fail) (by assumption) (by first | ((walk_at "ROOM"); done) | fail) (by first | ((walk_at "ROOM"); done) | fail) ?_; intro _ _ _ _ _ _ zN9 _; (try simp only [List.cons_append, List.nil_append] at zN9); (try dsimp only); (try k_fold))))
  k_with "call ref" => ((k_here; k_dflt (refine' spec_i2d (by first | ((walk_at "CX"); done) | fail) (by k_asm) (by assumption) (by first | ((walk_at "APP"); done) | fail) (by first | ((walk_at "DIS"); done) | fail) (by lia) (by lia) (by assumption) _ (by assumption) (by lia) (by assumption) (by first | ((walk_at "ROOM"); done) | fail) (by first | ((walk_at "ROOM"); done) | fail) ?_; intro _ _ _ _ _ _ _ _ _ zN9 zhf9 _; (try simp only [List.cons_append, List.nil_append] at zN9); (replace zhf9 := allNe_of zhf9; try simp only [AllNe, and_true] at zhf9); (try dsimp only); (try k_fold))))
  k_with "LEN" => (first | lia | ((try simp only [List.length_reverse, List.length_append, List.length_map, List.length_cons, List.length_nil, digs_length]); lia))
  k_with "call builtin:list.append" => ((k_here; k_dflt ((try dsimp only); refine' append_K (by k_asm) (by k_asm) (by k_upd) ?_ (by first | ((first | size_fits | (rw [sizeLine_eq]; simp only [List.size_toArray]; lia)); done) | fail)); intro _ _ zN9; (try simp only [List.push_toArray] at zN9); (try k_sweep)))
  k_with "OFF1" => ((repeat (first | exact List.forall_mem_nil _ | (refine' List.forall_mem_cons.mpr ⟨?_, ?_⟩; focus k_ne) | assumption | exact ofAllLt (by assumption) | k_all)))
  k_with "OFF" => ((refine' offSwap ?_; (repeat (first | exact List.forall_mem_nil _ | (refine' List.forall_mem_cons.mpr ⟨?_, ?_⟩; focus walk_at "OFF1")))))
  k_with "call builtin:list.reverse" => ((k_here; k_dflt ((try dsimp only); refine' kl_reverseU (by k_asm) (by k_asm) (by k_upd) (by exact rev_arr _) (by exact szl (by assumption)) ?_); intro _ _ _; (try k_sweep)))
  k_with "call type:list" => ((k_here; k_dflt (refine' list_revK (by exact rfl) (by k_asm) (by k_asm) (by first | ((first | k_all | fail); done) | fail) (by is_list) (by l_ints) (by first | ((walk_at "LEN"); done) | fail) ?_; intro _ _ _ _ _ _ _ _ _; (try k_sweep))))
  k_with "call builtin:len" => ((k_here; k_dflt (refine' len_ints (by is_list) (by l_ints) (by first | ((first | exact digs_length _ _ _ | exact rfl); done) | fail) (by lia) ?_; (try dsimp only))))
  k_with "SUMLEN" => (((try simp only [digs_length, List.length_append, List.length_reverse, List.length_map]); (simp only [sizeLine_eq]); first | lia | (rename_i e2' e3'; simp_all; lia)))
  k_with "binaryOp Add ref ref" => ((k_here; (with_reducible show wpAny _ _ (binaryOp _ (Value.ref _) (Value.ref _)) _ _ _); k_dflt ((try dsimp only); refine' kmk_add_ints (by k_asm) (by k_asm) (by kmk_list) (by kmk_list) (by l_ints) (by l_ints) ?_ (by first | ((first | walk_at "SUMLEN" | fail); done) | fail)); intro _ _ _ _ _ zl1 _; (try k_lt zl1); (try k_sweep)))
  k_with "TAILIN1" => ((repeat (first | assumption | refine' List.Mem.tail _ ?_)))
  k_with "MEMU" => ((repeat (first | exact List.mem_append_left _ (by assumption) | refine' List.Mem.tail _ ?_)))
  k_with "call builtin:divmod" => ((k_here; refine divmod_N (by k_asm) (by k_asm) (by lia) ?_ (Or.inl (noPy (by assumption) (by assumption))); intro _ _ _))
  w_on
  w_top on
  obtain ⟨B, F, X, T, hk, CA, CB⟩ := cx
  have hdp' : dp + 4 < 1000 := hdp
  have hun' : un + 100 < 9900 := hun
  have hgb : GotBack NoT h₀ L m news s (fun v new => ∃ r t1 t2, v = .ref r ∧ new = [(r, tupII (x.fdiv b) t1 (x.fmod b) t2)]) Q := by
    rintro _ _ t' h' tk' rfl ⟨r, t1, t2, rfl, rfl⟩ F' N' dn dt
    rw [List.append_nil] at N'
    exact hret r t1 t2 h' tk' F' N' fun q hq => dn q hq _ (.head _)
  clear hret
  have N0 : News h₀ L s.heap (news ++ []) := by rw [List.append_nil]; exact N
  have hown : Dis news [] := fun _ _ _ h => nomatch h
  first | k_dflt ((
        refine' enterP ?k1 ?k2 ?k3 ?k4 ?k5 ?k6 ?kA ?kF ?kK ?k7 ?kd ?k8 ?k9 ?kb ?kB ?kr ?_ ?kc ?c2 ?c3 ?c4
        (case kr => assumption); (case kA => exact rfl); (case kF => exact rfl); (case kK => assumption)
        (case k1 => k_asm); (case k2 => k_asm); (case k3 => k_asm); (case k4 => k_asm); (case k5 => k_asm); (case k6 => assumption)
        (case k7 => k_is); (case kd => exact rfl); (case k8 => k_is); (case k9 => walk_at "ROOM"); (case kb => exact BindsTo.of_eq rfl); (case kB => exact locs rfl); (case kc => decide); (case c2 => exact rfl); (case c3 => exact rfl); (case c4 => exact rfl))) | fail
  intro g' L' h' hkg F' N' B' X' T' l1
  refine holdQ ?_
  intro QR hQR
  clear hkg hgb N0 N F B X T hown l1
  (try dsimp only)
  (try k_fold)
  k_steps
  exact hQR _ _ <| Ret.intro (t' := []) [(_, _)] rfl (by k_asm) (by k_asm) (by walk_at "SUBL") ⟨_, _, _, rfl, rfl⟩

/- a turn of the division -/
inductive DposI (b x : Int) (k : Nat) (l A : Addr) (vsA : List Value) (epA : Nat) (tA : Led) (m₀ : Str → Option Value) (xs : List Itm) (m : Str → Option Value) (news : Led) : Prop
  | mk (lv : List Value) (ls : List Int) (V r : Int) (tr : Tok) (qv : List Value) (qs : List Int) (eq len : Nat) (h1 : xs = lv.map .val) (h2 : IntsAre lv ls) (h3 : ∀ d ∈ ls, 0 ≤ d ∧ d < 2 ^ Builtin.Int.intBits b) (h4 : DivInv (Builtin.Int.intBits b) b V r qs len) (h5 : IntsAre qv qs) (h6 : len + ls.length = k) (h7 : big (Builtin.Int.intBits b) V ls = x)
    (h8 : Held m₀ [Str.ofString "a_digit", Str.ofString "q_digit"] [(Str.ofString "r", .int r tr)] m) (h9 : news = (l, W.listOf qv.toArray eq) :: (A, W.listOf vsA.toArray epA) :: tA)
set_option maxHeartbeats 8000000
set_option pp.deepTerms.threshold 4 in
theorem spec_dpos {w : World} {mg mb : Str → Option Value} {p : Program} {loose : List Str} {mean : ExcName → Option Value}
  {dp un : Nat} {gd : Option (List Code)} {cn : Str} {cs : Scope} {a : Addr} {ccd : Value} {cl : List (Str × Addr)} {outer : List Env} {A₀ : Around} {base h₀ : Heap} {L : Addr} {m : Str → Option Value} {s : Shared} {Q E : Value → Shared → Prop}
  {news own t : Led} {x b : Int} {tx tb : Tok}
  (cx : Cx w p loose mean mg mb A₀ base outer h₀ s.heap L m cs) (N : News h₀ L s.heap news) (htb : TB t) (hap : App news own t) (hown : Dis own t)
  (hx : 0 ≤ x) (hb : 0 < b) (hb2 : b < 2 ^ 64) (hxb : Builtin.Int.intBits x ≤ 62 * Builtin.Int.intBits b)
  (hdp : dp + 84 < recursionLimit) (hun : un + 850 < cLine)
  (hret : ∀ r t1 t2 t' h' tk', TB t' → Fr h₀ L h' m → News h₀ L h' ((r, tupII (x.fdiv b) t1 (x.fmod b) t2) :: (own ++ t')) → (∀ q ∈ own, q.1 ≠ r) → Dis own t' → Q (.ref r) { s with heap := h', toks := tk' }) :
  wpAny (model PySem.Challenge.pw_pg0162_01 w) (ktrTop dp un gd cn cs L a ccd cl outer) (call (.ref 54) [.int x tx, .int b tb]) Q E s := by
  k_with_none
  k_with "CJ" => (first | exact cj0 (by with_reducible assumption) | exact cj1 (by with_reducible assumption) | exact cj2 (by with_reducible assumption) | exact cj2z (by with_reducible assumption) | exact cj3 (by with_reducible assumption) | exact cj3z (by with_reducible assumption) | exact cj4 (by with_reducible assumption) | exact cj4z (by with_reducible assumption) | exact cj5 (by with_reducible assumption) | exact cj5z (by with_reducible assumption) | exact cj6 (by with_reducible assumption) | exact cj6z (by with_reducible assumption) | exact cj7 (by with_reducible assumption) | exact cj7z (by with_reducible assumption))
  k_with "NE" => ((refine neN ?_; (try dsimp only); first | walk_at "CJ" | exact Ne.symm (by walk_at "CJ") | exact Nat.ne_of_lt (by walk_at "CJ") | exact Nat.ne_of_gt (by walk_at "CJ") | exact neP (by walk_at "CJ") | exact Ne.symm (neP (by walk_at "CJ")) | exact neQ (by decide) | exact neR (by decide) | exact Ne.symm (neR (by decide)) | lia))
  k_with "MEM" => (k_dflt assumption)
  k_with "ALL" => ((refine' TB.off (by assumption) (by k_asm) (by k_mem) (by first | (((intro _ zh9; (repeat (first | exact zh9 | exact List.mem_append_right _ zh9 | refine' List.Mem.tail _ ?_)))); done) | fail) (by first | ((first | (intro _ zh9; cases zh9; done) | (intro _ zh9; simp_all)); done) | fail)))
  k_with "ALL" => (first | assumption | exact ofAllLt (by assumption) | exact ofAllLt (allLt_left (by assumption)) | (refine' forallApp ?_ ?_ <;> k_all))
  k_with "ROOM" => (first | lia | ((try simp only [depth_under_make, depth_under_kw, depth_in1, depth_deeper, depth_caller, recursionLimit, units_in1, units_deeper, Around.mark_units, units_caller, cLine] at *); (try dsimp only [ktrTop] at *); lia))
  k_with "TAILIN" => ((intro _ zh9; (try simp only [List.nil_append] at zh9); (repeat (first | exact zh9 | refine' List.Mem.tail _ ?_))))
  k_with "SUBL" => (((try simp only [List.cons_append, List.nil_append]); (repeat (refine List.forall_mem_cons.mpr ⟨by k_mem, ?_⟩)); first | exact List.forall_mem_nil _ | walk_at "TAILIN"))
  k_with "CX" => (exact ⟨by k_asm, by k_asm, by k_asm, by k_asm, by first | exact rfl | assumption, by assumption, by assumption⟩)
  k_with "APP" => ((repeat (first | exact App.nil | exact App.gen _ _ | apply App.cons)))
  k_with "DIS" => ((repeat (first | exact Dis.nil | assumption | (refine' Dis.cons ?_ ?_; focus (first | assumption | k_all)))))
  k_with "call ref" => ((k_here; k_dflt (refine' spec_d2i (by first | ((walk_at "CX"); done) | fail) (by k_asm) (by assumption) (by first | ((walk_at "APP"); done) | fail) (by first | ((walk_at "DIS"); done) | fail) (by is_list) (by l_ints) (by lia) (by first | ((walk_at "LEN"); done) | fail) (by assumption) (by first | ((walk_at "ROOM"); done) | fail) (by first | ((walk_at "ROOM"); done) | fail) ?_; intro _ _ _ _ _ _ zN9 _; (try simp only [List.cons_append, List.nil_append] at zN9); (try dsimp only); (try k_fold))))
  k_with "call ref" => ((k_here; k_dflt (refine' spec_i2d (by first | ((walk_at "CX"); done) | fail) (by k_asm) (by assumption) (by first | ((walk_at "APP"); done) | fail) (by first | ((walk_at "DIS"); done) | fail) (by lia) (by lia) (by assumption) _ (by assumption) (by lia) (by assumption) (by first | ((walk_at "ROOM"); done) | fail) (by first | ((walk_at "ROOM"); done) | fail) ?_; intro _ _ _ _ _ _ _ _ _ zN9 zhf9 _; (try simp only [List.cons_append, List.nil_append] at zN9); (replace zhf9 := allNe_of zhf9; try simp only [AllNe, and_true] at zhf9); (try dsimp only); (try k_fold))))
  k_with "call ref" => ((k_here; k_dflt (refine' spec_d2n (by first | ((walk_at "CX"); done) | fail) (by k_asm) (by assumption) (by assumption) (by assumption) (by first | ((walk_at "ROOM"); done) | fail) (by first | ((walk_at "ROOM"); done) | fail) ?_; intro _ _ _ _ _ _ _ zhf9; (replace zhf9 := allNe_of zhf9; simp only [AllNe, and_true] at zhf9); (try dsimp only); (try k_fold))))
  k_with "LEN" => (first | lia | ((try simp only [List.length_reverse, List.length_append, List.length_map, List.length_cons, List.length_nil, digs_length]); lia))
  k_with "call builtin:list.append" => ((k_here; k_dflt ((try dsimp only); refine' append_K (by k_asm) (by k_asm) (by k_upd) ?_ (by first | ((first | size_fits | (rw [sizeLine_eq]; simp only [List.size_toArray]; lia)); done) | fail)); intro _ _ zN9; (try simp only [List.push_toArray] at zN9); (try k_sweep)))
  k_with "OFF1" => ((repeat (first | exact List.forall_mem_nil _ | (refine' List.forall_mem_cons.mpr ⟨?_, ?_⟩; focus k_ne) | assumption | exact ofAllLt (by assumption) | k_all)))
  k_with "OFF" => ((refine' offSwap ?_; (repeat (first | exact List.forall_mem_nil _ | (refine' List.forall_mem_cons.mpr ⟨?_, ?_⟩; focus walk_at "OFF1")))))
  k_with "call builtin:list.reverse" => ((k_here; k_dflt ((try dsimp only); refine' kl_reverseU (by k_asm) (by k_asm) (by k_upd) (by exact rev_arr _) (by exact szl (by assumption)) ?_); intro _ _ _; (try k_sweep)))
  k_with "call type:list" => ((k_here; k_dflt (refine' list_revK (by exact rfl) (by k_asm) (by k_asm) (by first | ((first | k_all | fail); done) | fail) (by is_list) (by l_ints) (by first | ((walk_at "LEN"); done) | fail) ?_; intro _ _ _ _ _ _ _ _ _; (try k_sweep))))
  k_with "call builtin:len" => ((k_here; k_dflt (refine' len_ints (by is_list) (by l_ints) (by first | ((first | exact digs_length _ _ _ | exact rfl); done) | fail) (by lia) ?_; (try dsimp only))))
  k_with "SUMLEN" => (((try simp only [digs_length, List.length_append, List.length_reverse, List.length_map]); (simp only [sizeLine_eq]); first | lia | (rename_i e2' e3'; simp_all; lia)))
  k_with "binaryOp Add ref ref" => ((k_here; (with_reducible show wpAny _ _ (binaryOp _ (Value.ref _) (Value.ref _)) _ _ _); k_dflt ((try dsimp only); refine' kmk_add_ints (by k_asm) (by k_asm) (by kmk_list) (by kmk_list) (by l_ints) (by l_ints) ?_ (by first | ((first | walk_at "SUMLEN" | fail); done) | fail)); intro _ _ _ _ _ zl1 _; (try k_lt zl1); (try k_sweep)))
  k_with "TAILIN1" => ((repeat (first | assumption | refine' List.Mem.tail _ ?_)))
  k_with "MEMU" => ((repeat (first | exact List.mem_append_left _ (by assumption) | refine' List.Mem.tail _ ?_)))
  k_with "exec For Name Call cons nil" => ((k_here; (with_unfolding_all refine' For_turns (by with_reducible assumption) ?_ (fun _ => rfl) PassesOwn.never)))
  k_with "binaryOp LShift int int" => ((k_here; (with_reducible refine lshift_int (by lia) (by exact small_bits (by assumption) (by assumption) (by lia)) ?_)))
  w_on
  w_top on
  obtain ⟨B, F, X, T, hk, CA, CB⟩ := cx
  have hdp' : dp + 84 < 1000 := hdp
  have hun' : un + 850 < 9900 := hun
  have e9 := hap.eq
  subst e9
  have hgb : GotBack TB h₀ L m own s (fun v new => ∃ r t1 t2, v = .ref r ∧ new = [(r, tupII (x.fdiv b) t1 (x.fmod b) t2)]) Q := by
    rintro _ _ t' h' tk' htb' ⟨r, t1, t2, rfl, rfl⟩ F' N' dn dt
    exact hret r t1 t2 t' h' tk' htb' F' N' (fun q hq => dn q hq _ (.head _)) dt
  clear hret
  first | k_dflt ((
        refine' enterP ?k1 ?k2 ?k3 ?k4 ?k5 ?k6 ?kA ?kF ?kK ?k7 ?kd ?k8 ?k9 ?kb ?kB ?kr ?_ ?kc ?c2 ?c3 ?c4
        (case kr => assumption); (case kA => exact rfl); (case kF => exact rfl); (case kK => assumption)
        (case k1 => k_asm); (case k2 => k_asm); (case k3 => k_asm); (case k4 => k_asm); (case k5 => k_asm); (case k6 => assumption)
        (case k7 => k_is); (case kd => exact rfl); (case k8 => k_is); (case k9 => walk_at "ROOM"); (case kb => exact BindsTo.of_eq rfl); (case kB => exact locs rfl); (case kc => decide); (case c2 => exact rfl); (case c3 => exact rfl); (case c4 => exact rfl))) | fail
  intro g' L' h' hkg F' N' B' X' T' l1
  refine holdQ ?_
  intro QR hQR
  clear hkg hgb N F B X T hown hap
  have hn1 := bits_pos hb
  have hn64 := bits_le (Int.le_of_lt hb) hb2
  obtain ⟨k, hk63, hkk, hxk⟩ := digs_count hx hn1 hxb
  (try dsimp only)
  (try k_fold)
  k_steps
  rename_i hz0 A vsA epA tA hA tkA hiA htA hdA hz1 hz2 l hz3 lt1 hz4 D hz5 F0 N0 lt2
  have hlA : vsA.length = k := by rw [hiA.length, digs_length]
  k_dflt refine' iter_revTurns (vs := vsA) ?hh ?F ?N ?hoff ?hm ?hc ?hd ?_
  case hh => exact rfl
  case F => k_asm
  case N => k_asm
  case hoff => first | k_all | fail
  case hm => first | k_mem | fail
  case hc => exact rfl
  case hd => exact rfl
  refine rest_indM (fun m₀ xs m news => DposI b x k l A vsA epA tA m₀ xs m news) ?step ?done ?start
  case start =>
    refine ⟨vsA.reverse, (digs (Builtin.Int.intBits b) k x).reverse, 0, 0, _, [], [], 0, 0, rfl, ?_, ?_, DivInv.start _ _, .nil, by rw [List.length_reverse, digs_length, Nat.zero_add], ?_, ⟨fun p hp => by rw [List.mem_singleton.mp hp]; rfl, fun _ _ _ => rfl⟩, rfl⟩
    · exact ints_rev hiA
    · intro d hd
      exact digs_range _ _ _ d (List.mem_reverse.mp hd)
    · rw [big_reverse, digVal_digs _ _ _ hx hxk]
  case step =>
    intro it0 rr m9 news9 hz0 v H tk hv F9
    refine hide ?_
    intro Z hZ
    obtain ⟨lv, ls, V, r, tr, qv, qs, eq, len, hxs, hlv, hls, hdi, hqv, hlen, hbig, hH, rfl⟩ := hz0
    cases hlv with
    | nil => simp at hxs
    | cons d td hlv =>
      simp only [List.map_cons, List.cons.injEq] at hxs
      obtain ⟨rfl, rfl⟩ := hxs
      have hv' : v = .int d td := hv
      subst hv'
      refine hZ ?_
      clear hZ Z
      have hd := hls d (.head _)
      have hc := hdi.cur hb hd
      have hcb := cur_bits hc.1 hc.2 hb rfl hn64
      have hr0 := (hdi.rbound hb).1
      have hr1 : r < 2 ^ 64 := Int.lt_trans (hdi.rbound hb).2 hb2
      have hql : qv.length ≤ 64 := by have h1 := hqv.length; have h2 := hdi.hl; lia
      have F9 := hH.fr F9
      refine AllObj.cons (w := (_, _)) fun it hit => AllObj.nil ?_
      intro N9
      simp only [List.cons_append, List.nil_append] at N9
      refine holdT ?_
      intro QT hQT
      (try dsimp only)
      (try k_fold)
      k_steps
      refine' hQT _ _ ?_
      refine' TurnP.next ?F ?N ((l, ?o1) :: (A, ?o2) :: tA) ?hs ?off ?r
      case F => k_asm
      case N => k_asm
      case hs => first | walk_at "SUBL" | fail
      case off => first | walk_at "OFF" | fail
      case r =>
        refine' ⟨⟨List.Mem.tail _ (.head _), trivial⟩, _, _, V * 2 ^ Builtin.Int.intBits b + d, _, ?tr, qv ++ [_], qs ++ [_], eq + 1, len + 1, rfl, hlv, fun y hy => hls y (.tail _ hy), hdi.step hb hd, hqv.append (.cons _ _ .nil), ?hl, ?hb, ⟨?h1, ?h2⟩, rfl⟩
        case h1 => exact fun p hp => by rw [List.mem_singleton.mp hp]; rfl
        case hl => rw [List.length_cons] at hlen; lia
        case hb => exact hbig
        case h2 =>
          intro z g1 g2
          have a1 := g1 _ (.head _)
          have a2 := notIn g2 _ (.head _)
          have a3 := notIn g2 _ (.tail _ (.head _))
          (repeat (first | with_reducible exact rfl | with_reducible refine stIf (by assumption) ?_ | with_reducible refine stCons (by assumption) ?_ | with_reducible refine stNil ?_ | with_reducible refine stCon (by assumption) ?_))
  case done =>
    intro m9 news9 hz0 H tk F9 N9
    refine hide ?_
    intro Z hZ
    obtain ⟨lv, ls, V, r, tr, qv, qs, eq, len, hxs, hlv, hls, hdi, hqv, hlen, hbig, hH, rfl⟩ := hz0
    have F9 := hH.fr F9
    cases hlv with
    | cons => simp at hxs
    | nil =>
      have hV : V = x := hbig
      subst hV
      refine hZ ?_
      clear hZ Z
      have hql : qv.length ≤ 64 := by have h1 := hqv.length; have h2 := hdi.hl; lia
      have hqr := hqv.reverse
      have hl2 := hdi.hl
      have hrg : ∀ y ∈ qs.reverse, 0 ≤ y ∧ y < 2 ^ Builtin.Int.intBits b := fun y hy => hdi.rng y (List.mem_reverse.mp hy)
      (try dsimp only)
      (try k_fold)
      k_steps
      have e1 : digVal (Builtin.Int.intBits b) qs.reverse = V.fdiv b := by rw [hdi.hq, Int.fdiv_eq_ediv_of_nonneg _ (Int.le_of_lt hb)]
      have e2 : r = V.fmod b := by rw [hdi.hr, Int.fmod_eq_emod_of_nonneg _ (Int.le_of_lt hb)]
      refine' hQR _ _ ?_
      refine' Ret.intro [(_, _)] ?htb ?F ?N ?hs ?w
      case F => k_asm
      case N => k_asm
      case htb => assumption
      case hs => first | walk_at "SUBL" | fail
      case w => exact ⟨_, _, _, rfl, by rw [← e1, ← e2] <;> rfl⟩

set_option maxHeartbeats 8000000
set_option pp.deepTerms.threshold 4 in
theorem spec_idm {w : World} {mg mb : Str → Option Value} {p : Program} {loose : List Str} {mean : ExcName → Option Value}
  {dp un : Nat} {gd : Option (List Code)} {cn : Str} {cs : Scope} {a : Addr} {ccd : Value} {cl : List (Str × Addr)} {outer : List Env} {A₀ : Around} {base h₀ : Heap} {L : Addr} {m : Str → Option Value} {s : Shared} {Q E : Value → Shared → Prop}
  {news own t : Led} {x b : Int} {tx tb : Tok}
  (cx : Cx w p loose mean mg mb A₀ base outer h₀ s.heap L m cs) (N : News h₀ L s.heap news) (htb : TB t) (hap : App news own t) (hown : Dis own t)
  (hx : 0 ≤ x) (hb : 0 < b) (hb2 : b < 2 ^ 64) (hxb : Builtin.Int.intBits x ≤ 62 * Builtin.Int.intBits b)
  (hdp : dp + 86 < recursionLimit) (hun : un + 870 < cLine)
  (hret : ∀ r t1 t2 t' h' tk', TB t' → Fr h₀ L h' m → News h₀ L h' ((r, tupII (x.fdiv b) t1 (x.fmod b) t2) :: (own ++ t')) → (∀ q ∈ own, q.1 ≠ r) → Dis own t' → Q (.ref r) { s with heap := h', toks := tk' }) :
  wpAny (model PySem.Challenge.pw_pg0162_01 w) (ktrTop dp un gd cn cs L a ccd cl outer) (call (.ref 61) [.int x tx, .int b tb]) Q E s := by
  k_with_none
  k_with "CJ" => (first | exact cj0 (by with_reducible assumption) | exact cj1 (by with_reducible assumption) | exact cj2 (by with_reducible assumption) | exact cj2z (by with_reducible assumption) | exact cj3 (by with_reducible assumption) | exact cj3z (by with_reducible assumption) | exact cj4 (by with_reducible assumption) | exact cj4z (by with_reducible assumption) | exact cj5 (by with_reducible assumption) | exact cj5z (by with_reducible assumption) | exact cj6 (by with_reducible assumption) | exact cj6z (by with_reducible assumption) | exact cj7 (by with_reducible assumption) | exact cj7z (by with_reducible assumption))
  k_with "NE" => ((refine neN ?_; (try dsimp only); first | walk_at "CJ" | exact Ne.symm (by walk_at "CJ") | exact Nat.ne_of_lt (by walk_at "CJ") | exact Nat.ne_of_gt (by walk_at "CJ") | exact neP (by walk_at "CJ") | exact Ne.symm (neP (by walk_at "CJ")) | exact neQ (by decide) | exact neR (by decide) | exact Ne.symm (neR (by decide)) | lia))
  k_with "MEM" => (k_dflt assumption)
  k_with "ALL" => ((refine' TB.off (by assumption) (by k_asm) (by k_mem) (by first | (((intro _ zh9; (repeat (first | exact zh9 | exact List.mem_append_right _ zh9 | refine' List.Mem.tail _ ?_)))); done) | fail) (by first | ((first | (intro _ zh9; cases zh9; done) | (intro _ zh9; simp_all)); done) | fail)))
  k_with "ALL" => (first | assumption | exact ofAllLt (by assumption) | exact ofAllLt (allLt_left (by assumption)) | (refine' forallApp ?_ ?_ <;> k_all))
  k_with "ROOM" => (first | lia | ((try simp only [depth_under_make, depth_under_kw, depth_in1, depth_deeper, depth_caller, recursionLimit, units_in1, units_deeper, Around.mark_units, units_caller, cLine] at *); (try dsimp only [ktrTop] at *); lia))
  k_with "TAILIN" => ((intro _ zh9; (try simp only [List.nil_append] at zh9); (repeat (first | exact zh9 | refine' List.Mem.tail _ ?_))))
  k_with "SUBL" => (((try simp only [List.cons_append, List.nil_append]); (repeat (refine List.forall_mem_cons.mpr ⟨by k_mem, ?_⟩)); first | exact List.forall_mem_nil _ | walk_at "TAILIN"))
  k_with "CX" => (exact ⟨by k_asm, by k_asm, by k_asm, by k_asm, by first | exact rfl | assumption, by assumption, by assumption⟩)
  k_with "APP" => ((repeat (first | exact App.nil | exact App.gen _ _ | apply App.cons)))
  k_with "DIS" => ((repeat (first | exact Dis.nil | assumption | (refine' Dis.cons ?_ ?_; focus (first | assumption | k_all)))))
  k_with "call ref" => ((k_here; k_dflt (refine' spec_d2i (by first | ((walk_at "CX"); done) | fail) (by k_asm) (by assumption) (by first | ((walk_at "APP"); done) | fail) (by first | ((walk_at "DIS"); done) | fail) (by is_list) (by l_ints) (by lia) (by first | ((walk_at "LEN"); done) | fail) (by assumption) (by first | ((walk_at "ROOM"); done) | fail) (by first | ((walk_at "ROOM"); done) | fail) ?_; intro _ _ _ _ _ _ zN9 _; (try simp only [List.cons_append, List.nil_append] at zN9); (try dsimp only); (try k_fold))))
  k_with "call ref" => ((k_here; k_dflt (refine' spec_i2d (by first | ((walk_at "CX"); done) | fail) (by k_asm) (by assumption) (by first | ((walk_at "APP"); done) | fail) (by first | ((walk_at "DIS"); done) | fail) (by lia) (by lia) (by assumption) _ (by assumption) (by lia) (by assumption) (by first | ((walk_at "ROOM"); done) | fail) (by first | ((walk_at "ROOM"); done) | fail) ?_; intro _ _ _ _ _ _ _ _ _ zN9 zhf9 _; (try simp only [List.cons_append, List.nil_append] at zN9); (replace zhf9 := allNe_of zhf9; try simp only [AllNe, and_true] at zhf9); (try dsimp only); (try k_fold))))
  k_with "call ref" => ((k_here; k_dflt (refine' spec_d2n (by first | ((walk_at "CX"); done) | fail) (by k_asm) (by assumption) (by assumption) (by assumption) (by first | ((walk_at "ROOM"); done) | fail) (by first | ((walk_at "ROOM"); done) | fail) ?_; intro _ _ _ _ _ _ _ zhf9; (replace zhf9 := allNe_of zhf9; simp only [AllNe, and_true] at zhf9); (try dsimp only); (try k_fold))))
  k_with "LEN" => (first | lia | ((try simp only [List.length_reverse, List.length_append, List.length_map, List.length_cons, List.length_nil, digs_length]); lia))
  k_with "call builtin:list.append" => ((k_here; k_dflt ((try dsimp only); refine' append_K (by k_asm) (by k_asm) (by k_upd) ?_ (by first | ((first | size_fits | (rw [sizeLine_eq]; simp only [List.size_toArray]; lia)); done) | fail)); intro _ _ zN9; (try simp only [List.push_toArray] at zN9); (try k_sweep)))
  k_with "OFF1" => ((repeat (first | exact List.forall_mem_nil _ | (refine' List.forall_mem_cons.mpr ⟨?_, ?_⟩; focus k_ne) | assumption | exact ofAllLt (by assumption) | k_all)))
  k_with "OFF" => ((refine' offSwap ?_; (repeat (first | exact List.forall_mem_nil _ | (refine' List.forall_mem_cons.mpr ⟨?_, ?_⟩; focus walk_at "OFF1")))))
  k_with "call builtin:list.reverse" => ((k_here; k_dflt ((try dsimp only); refine' kl_reverseU (by k_asm) (by k_asm) (by k_upd) (by exact rev_arr _) (by exact szl (by assumption)) ?_); intro _ _ _; (try k_sweep)))
  k_with "call ref" => ((k_here; k_dflt (refine' spec_dpos (by first | ((walk_at "CX"); done) | fail) (by k_asm) (by assumption) (by first | ((walk_at "APP"); done) | fail) (by first | ((walk_at "DIS"); done) | fail) (by first | ((first | assumption | lia); done) | fail) (by first | ((first | assumption | lia); done) | fail) (by assumption) (by assumption) (by first | ((walk_at "ROOM"); done) | fail) (by first | ((walk_at "ROOM"); done) | fail) ?_; intro _ _ _ _ _ _ _ _ zN9 zhf9 _; (try simp only [List.cons_append, List.nil_append] at zN9); (replace zhf9 := allNe_of zhf9; try simp only [AllNe, and_true] at zhf9); (try dsimp only); (try k_fold))))
  k_with "call type:list" => ((k_here; k_dflt (refine' list_revK (by exact rfl) (by k_asm) (by k_asm) (by first | ((first | k_all | fail); done) | fail) (by is_list) (by l_ints) (by first | ((walk_at "LEN"); done) | fail) ?_; intro _ _ _ _ _ _ _ _ _; (try k_sweep))))
  k_with "call builtin:len" => ((k_here; k_dflt (refine' len_ints (by is_list) (by l_ints) (by first | ((first | exact digs_length _ _ _ | exact rfl); done) | fail) (by lia) ?_; (try dsimp only))))
  k_with "SUMLEN" => (((try simp only [digs_length, List.length_append, List.length_reverse, List.length_map]); (simp only [sizeLine_eq]); first | lia | (rename_i e2' e3'; simp_all; lia)))
  k_with "binaryOp Add ref ref" => ((k_here; (with_reducible show wpAny _ _ (binaryOp _ (Value.ref _) (Value.ref _)) _ _ _); k_dflt ((try dsimp only); refine' kmk_add_ints (by k_asm) (by k_asm) (by kmk_list) (by kmk_list) (by l_ints) (by l_ints) ?_ (by first | ((first | walk_at "SUMLEN" | fail); done) | fail)); intro _ _ _ _ _ zl1 _; (try k_lt zl1); (try k_sweep)))
  k_with "TAILIN1" => ((repeat (first | assumption | refine' List.Mem.tail _ ?_)))
  k_with "MEMU" => ((repeat (first | exact List.mem_append_left _ (by assumption) | refine' List.Mem.tail _ ?_)))
  w_on
  w_top on
  obtain ⟨B, F, X, T, hk, CA, CB⟩ := cx
  have hdp' : dp + 86 < 1000 := hdp
  have hun' : un + 870 < 9900 := hun
  have e9 := hap.eq
  subst e9
  have hgb : GotBack TB h₀ L m own s (fun v new => ∃ r t1 t2, v = .ref r ∧ new = [(r, tupII (x.fdiv b) t1 (x.fmod b) t2)]) Q := by
    rintro _ _ t' h' tk' htb' ⟨r, t1, t2, rfl, rfl⟩ F' N' dn dt
    exact hret r t1 t2 t' h' tk' htb' F' N' (fun q hq => dn q hq _ (.head _)) dt
  clear hret
  first | k_dflt ((
        refine' enterP ?k1 ?k2 ?k3 ?k4 ?k5 ?k6 ?kA ?kF ?kK ?k7 ?kd ?k8 ?k9 ?kb ?kB ?kr ?_ ?kc ?c2 ?c3 ?c4
        (case kr => assumption); (case kA => exact rfl); (case kF => exact rfl); (case kK => assumption)
        (case k1 => k_asm); (case k2 => k_asm); (case k3 => k_asm); (case k4 => k_asm); (case k5 => k_asm); (case k6 => assumption)
        (case k7 => k_is); (case kd => exact rfl); (case k8 => k_is); (case k9 => walk_at "ROOM"); (case kb => exact BindsTo.of_eq rfl); (case kB => exact locs rfl); (case kc => decide); (case c2 => exact rfl); (case c3 => exact rfl); (case c4 => exact rfl))) | fail
  intro g' L' h' hkg F' N' B' X' T' l1
  refine holdQ ?_
  intro QR hQR
  clear hkg hgb N F B X T hown hap
  (try dsimp only)
  (try k_fold)
  k_steps
  all_goals try lia
  exact hQR _ _ <| Ret.intro [(_, _)] (by assumption) (by k_asm) (by k_asm) (by first | walk_at "SUBL" | fail) ⟨_, _, _, rfl, rfl⟩

set_option maxHeartbeats 8000000
abbrev tupRI (f : Addr) (y : Int) (t2 : Tok) : Obj := { cls := .type "tuple", data := .seq #[.ref f, .int y t2] }
theorem padGet {us : List Value} {ks ks' : List Int} (h : IntsAre us ks.reverse) (e : ks = ks') : IntsAre us ks'.reverse := e ▸ h
set_option pp.deepTerms.threshold 4 in
theorem spec_div {w : World} {mg mb : Str → Option Value} {p : Program} {loose : List Str} {mean : ExcName → Option Value}
  {dp un : Nat} {gd : Option (List Code)} {cn : Str} {cs : Scope} {a : Addr} {ccd : Value} {cl : List (Str × Addr)} {outer : List Env} {A₀ : Around} {base h₀ : Heap} {L : Addr} {m : Str → Option Value} {s : Shared} {Q E : Value → Shared → Prop}
  {news own t : Led} {d : Addr} {vs : List Value} {ms : List Int} {wd : Nat} {more : Int} {tw tm : Tok}
  (cx : Cx w p loose mean mg mb A₀ base outer h₀ s.heap L m cs) (N : News h₀ L s.heap news) (htb : TB t) (hap : App news own t) (hown : Dis own t)
  (hd : s.heap.IsList d vs.toArray) (hi : IntsAre vs ms) (hms : ∀ y ∈ ms, 0 ≤ y ∧ y < 2 ^ wd) (hlen : ms.length ≤ 40) (h6 : 6 ≤ wd) (h55 : wd ≤ 55) (hmore : more = 1 ∨ more = -1)
  (hdp : dp + 88 < recursionLimit) (hun : un + 890 < cLine)
  (hret : ∀ r f fv ep t2 t' h' tk', IntsAre fv (digs wd ms.length ((digVal wd ms.reverse).fdiv (2 ^ wd + more))).reverse → TB t' → Fr h₀ L h' m →
    News h₀ L h' ((r, tupRI f ((digVal wd ms.reverse).fmod (2 ^ wd + more)) t2) :: (f, W.listOf fv.toArray ep) :: (own ++ t')) → (∀ q ∈ own, q.1 ≠ r) → (∀ q ∈ own, q.1 ≠ f) → f ≠ r → Dis own t' → Q (.ref r) { s with heap := h', toks := tk' }) :
  wpAny (model PySem.Challenge.pw_pg0162_01 w) (ktrTop dp un gd cn cs L a ccd cl outer) (call (.ref 68) [.ref d, .int (wd : Int) tw, .int more tm]) Q E s := by
  k_with_none
  k_with "CJ" => (first | exact cj0 (by with_reducible assumption) | exact cj1 (by with_reducible assumption) | exact cj2 (by with_reducible assumption) | exact cj2z (by with_reducible assumption) | exact cj3 (by with_reducible assumption) | exact cj3z (by with_reducible assumption) | exact cj4 (by with_reducible assumption) | exact cj4z (by with_reducible assumption) | exact cj5 (by with_reducible assumption) | exact cj5z (by with_reducible assumption) | exact cj6 (by with_reducible assumption) | exact cj6z (by with_reducible assumption) | exact cj7 (by with_reducible assumption) | exact cj7z (by with_reducible assumption))
  k_with "NE" => ((refine neN ?_; (try dsimp only); first | walk_at "CJ" | exact Ne.symm (by walk_at "CJ") | exact Nat.ne_of_lt (by walk_at "CJ") | exact Nat.ne_of_gt (by walk_at "CJ") | exact neP (by walk_at "CJ") | exact Ne.symm (neP (by walk_at "CJ")) | exact neQ (by decide) | exact neR (by decide) | exact Ne.symm (neR (by decide)) | lia))
  k_with "MEM" => (k_dflt assumption)
  k_with "ALL" => ((refine' TB.off (by assumption) (by k_asm) (by k_mem) (by first | (((intro _ zh9; (repeat (first | exact zh9 | exact List.mem_append_right _ zh9 | refine' List.Mem.tail _ ?_)))); done) | fail) (by first | ((first | (intro _ zh9; cases zh9; done) | (intro _ zh9; simp_all)); done) | fail)))
  k_with "ALL" => (first | assumption | exact ofAllLt (by assumption) | exact ofAllLt (allLt_left (by assumption)) | (refine' forallApp ?_ ?_ <;> k_all))
  k_with "ROOM" => (first | lia | ((try simp only [depth_under_make, depth_under_kw, depth_in1, depth_deeper, depth_caller, recursionLimit, units_in1, units_deeper, Around.mark_units, units_caller, cLine] at *); (try dsimp only [ktrTop] at *); lia))
  k_with "TAILIN" => ((intro _ zh9; (try simp only [List.nil_append] at zh9); (repeat (first | exact zh9 | refine' List.Mem.tail _ ?_))))
  k_with "SUBL" => (((try simp only [List.cons_append, List.nil_append]); (repeat (refine List.forall_mem_cons.mpr ⟨by k_mem, ?_⟩)); first | exact List.forall_mem_nil _ | walk_at "TAILIN"))
  k_with "CX" => (exact ⟨by k_asm, by k_asm, by k_asm, by k_asm, by first | exact rfl | assumption, by assumption, by assumption⟩)
  k_with "APP" => ((repeat (first | exact App.nil | exact App.gen _ _ | apply App.cons)))
  k_with "DIS" => ((repeat (first | exact Dis.nil | assumption | (refine' Dis.cons ?_ ?_; focus (first | assumption | k_all)))))
  k_with "call ref" => ((k_here; k_dflt (refine' spec_d2i (by first | ((walk_at "CX"); done) | fail) (by k_asm) (by assumption) (by first | ((walk_at "APP"); done) | fail) (by first | ((walk_at "DIS"); done) | fail) (by is_list) (by l_ints) (by lia) (by first | ((walk_at "LEN"); done) | fail) (by assumption) (by first | ((walk_at "ROOM"); done) | fail) (by first | ((walk_at "ROOM"); done) | fail) ?_; intro _ _ _ _ _ _ zN9 _; (try simp only [List.cons_append, List.nil_append] at zN9); (try dsimp only); (try k_fold))))
  k_with "call ref" => ((k_here; k_dflt (refine' spec_i2d (by first | ((walk_at "CX"); done) | fail) (by k_asm) (by assumption) (by first | ((walk_at "APP"); done) | fail) (by first | ((walk_at "DIS"); done) | fail) (by lia) (by lia) (by assumption) _ (by assumption) (by lia) (by assumption) (by first | ((walk_at "ROOM"); done) | fail) (by first | ((walk_at "ROOM"); done) | fail) ?_; intro _ _ _ _ _ _ _ _ _ zN9 zhf9 _; (try simp only [List.cons_append, List.nil_append] at zN9); (replace zhf9 := allNe_of zhf9; try simp only [AllNe, and_true] at zhf9); (try dsimp only); (try k_fold))))
  k_with "call ref" => ((k_here; k_dflt (refine' spec_d2n (by first | ((walk_at "CX"); done) | fail) (by k_asm) (by assumption) (by assumption) (by assumption) (by first | ((walk_at "ROOM"); done) | fail) (by first | ((walk_at "ROOM"); done) | fail) ?_; intro _ _ _ _ _ _ _ zhf9; (replace zhf9 := allNe_of zhf9; simp only [AllNe, and_true] at zhf9); (try dsimp only); (try k_fold))))
  k_with "LEN" => (first | lia | ((try simp only [List.length_reverse, List.length_append, List.length_map, List.length_cons, List.length_nil, digs_length]); lia))
  k_with "call builtin:list.append" => ((k_here; k_dflt ((try dsimp only); refine' append_K (by k_asm) (by k_asm) (by k_upd) ?_ (by first | ((first | size_fits | (rw [sizeLine_eq]; simp only [List.size_toArray]; lia)); done) | fail)); intro _ _ zN9; (try simp only [List.push_toArray] at zN9); (try k_sweep)))
  k_with "OFF1" => ((repeat (first | exact List.forall_mem_nil _ | (refine' List.forall_mem_cons.mpr ⟨?_, ?_⟩; focus k_ne) | assumption | exact ofAllLt (by assumption) | k_all)))
  k_with "OFF" => ((refine' offSwap ?_; (repeat (first | exact List.forall_mem_nil _ | (refine' List.forall_mem_cons.mpr ⟨?_, ?_⟩; focus walk_at "OFF1")))))
  k_with "call builtin:list.reverse" => ((k_here; k_dflt ((try dsimp only); refine' kl_reverseU (by k_asm) (by k_asm) (by k_upd) (by exact rev_arr _) (by exact szl (by assumption)) ?_); intro _ _ _; (try k_sweep)))
  k_with "call ref" => ((k_here; k_dflt (refine' spec_dpos (by first | ((walk_at "CX"); done) | fail) (by k_asm) (by assumption) (by first | ((walk_at "APP"); done) | fail) (by first | ((walk_at "DIS"); done) | fail) (by first | ((first | assumption | lia); done) | fail) (by first | ((first | assumption | lia); done) | fail) (by assumption) (by assumption) (by first | ((walk_at "ROOM"); done) | fail) (by first | ((walk_at "ROOM"); done) | fail) ?_; intro _ _ _ _ _ _ _ _ zN9 zhf9 _; (try simp only [List.cons_append, List.nil_append] at zN9); (replace zhf9 := allNe_of zhf9; try simp only [AllNe, and_true] at zhf9); (try dsimp only); (try k_fold))))
  k_with "call ref" => ((k_here; k_dflt (refine' spec_idm (by first | ((walk_at "CX"); done) | fail) (by k_asm) (by assumption) (by first | ((walk_at "APP"); done) | fail) (by first | ((walk_at "DIS"); done) | fail) (by first | ((first | assumption | lia); done) | fail) (by first | ((first | assumption | lia); done) | fail) (by assumption) (by assumption) (by first | ((walk_at "ROOM"); done) | fail) (by first | ((walk_at "ROOM"); done) | fail) ?_; intro _ _ _ _ _ _ _ _ zN9 zhf9 _; (try simp only [List.cons_append, List.nil_append] at zN9); (replace zhf9 := allNe_of zhf9; try simp only [AllNe, and_true] at zhf9); (try dsimp only); (try k_fold))))
  k_with "call type:list" => ((k_here; k_dflt (refine' list_revK (by exact rfl) (by k_asm) (by k_asm) (by first | ((first | k_all | fail); done) | fail) (by is_list) (by l_ints) (by first | ((walk_at "LEN"); done) | fail) ?_; intro _ _ _ _ _ _ _ _ _; (try k_sweep))))
  k_with "call builtin:len" => ((k_here; k_dflt (refine' len_ints (by is_list) (by l_ints) (by first | ((first | exact digs_length _ _ _ | exact rfl); done) | fail) (by lia) ?_; (try dsimp only))))
  k_with "SUMLEN" => (((try simp only [digs_length, List.length_append, List.length_reverse, List.length_map]); (simp only [sizeLine_eq]); first | lia | (rename_i e2' e3'; simp_all; lia)))
  k_with "binaryOp Add ref ref" => ((k_here; (with_reducible show wpAny _ _ (binaryOp _ (Value.ref _) (Value.ref _)) _ _ _); k_dflt ((try dsimp only); refine' kmk_add_ints (by k_asm) (by k_asm) (by kmk_list) (by kmk_list) (by l_ints) (by l_ints) ?_ (by first | ((first | walk_at "SUMLEN" | fail); done) | fail)); intro _ _ _ _ _ zl1 _; (try k_lt zl1); (try k_sweep)))
  k_with "TAILIN1" => ((repeat (first | assumption | refine' List.Mem.tail _ ?_)))
  k_with "MEMU" => ((repeat (first | exact List.mem_append_left _ (by assumption) | refine' List.Mem.tail _ ?_)))
  w_on
  w_top on
  obtain ⟨B, F, X, T, hk, CA, CB⟩ := cx
  have hdp' : dp + 88 < 1000 := hdp
  have hun' : un + 890 < 9900 := hun
  have e9 := hap.eq
  subst e9
  have hgb : GotBack TB h₀ L m own s (fun v new => ∃ r f fv ep t2, IntsAre fv (digs wd ms.length ((digVal wd ms.reverse).fdiv (2 ^ wd + more))).reverse ∧ f ≠ r ∧ v = .ref r ∧ new = [(r, tupRI f ((digVal wd ms.reverse).fmod (2 ^ wd + more)) t2), (f, W.listOf fv.toArray ep)]) Q := by
    rintro _ _ t' h' tk' htb' ⟨r, f, fv, ep, t2, hfv, hne, rfl, rfl⟩ F' N' dn dt
    exact hret r f fv ep t2 t' h' tk' hfv htb' F' N' (fun q hq => dn q hq _ (.head _)) (fun q hq => dn q hq _ (.tail _ (.head _))) hne dt
  clear hret
  first | k_dflt ((
        refine' enterP ?k1 ?k2 ?k3 ?k4 ?k5 ?k6 ?kA ?kF ?kK ?k7 ?kd ?k8 ?k9 ?kb ?kB ?kr ?_ ?kc ?c2 ?c3 ?c4
        (case kr => assumption); (case kA => exact rfl); (case kF => exact rfl); (case kK => assumption)
        (case k1 => k_asm); (case k2 => k_asm); (case k3 => k_asm); (case k4 => k_asm); (case k5 => k_asm); (case k6 => assumption)
        (case k7 => k_is); (case kd => exact rfl); (case k8 => k_is); (case k9 => walk_at "ROOM"); (case kb => exact BindsTo.of_eq rfl); (case kB => exact locs rfl); (case kc => decide); (case c2 => exact rfl); (case c3 => exact rfl); (case c4 => exact rfl))) | fail
  intro g' L' h' hkg F' N' B' X' T' l1
  refine holdQ ?_
  intro QR hQR
  have hd' := listIn htb (newsSub N fun q hq => List.mem_append_right _ hq) hkg hd
  clear hkg hgb N F B X T hown hap hd
  have hir := hi.reverse
  have hmr : ∀ y ∈ ms.reverse, 0 ≤ y ∧ y < 2 ^ wd := fun y hy => hms y (List.mem_reverse.mp hy)
  obtain ⟨hb0, hb1, hbW⟩ := pow_bits (W := wd) (b := 2 ^ wd + more) rfl hmore h6 h55
  obtain ⟨hX0, hX1⟩ := digVal_bound wd ms.reverse hmr
  rw [List.length_reverse] at hX1
  have hXb : Builtin.Int.intBits (digVal wd ms.reverse) ≤ 62 * Builtin.Int.intBits (2 ^ wd + more) := by
    have h1 := bits_le hX0 hX1
    have h2 : wd * ms.length ≤ wd * 62 := Nat.mul_le_mul_left _ (by lia)
    have h3 : 62 * wd ≤ 62 * Builtin.Int.intBits (2 ^ wd + more) := Nat.mul_le_mul_left _ hbW
    lia
  have hq0 : 0 ≤ (digVal wd ms.reverse).fdiv (2 ^ wd + more) := by rw [Int.fdiv_eq_ediv_of_nonneg _ (Int.le_of_lt hb0)]; exact Int.ediv_nonneg hX0 (Int.le_of_lt hb0)
  have hq1 : (digVal wd ms.reverse).fdiv (2 ^ wd + more) < 2 ^ (wd * ms.length) := by
    rw [Int.fdiv_eq_ediv_of_nonneg _ (Int.le_of_lt hb0)]
    exact Int.lt_of_le_of_lt (Int.ediv_le_self _ hX0) hX1
  obtain ⟨k, hkn, hk63, hkk, hqk⟩ := digs_countN hq0 (by lia) hq1 (by lia)
  (try dsimp only)
  (try k_fold)
  k_steps
  (rename IntsAre _ (List.reverse (_ ++ _)) => hfin)
  replace hfin := padGet hfin (digs_padZ hq0 hqk hkn)
  exact hQR _ _ <| Ret.intro [(_, _), (_, _)] (by assumption) (by k_asm) (by k_asm) (by first | walk_at "SUBL" | fail) ⟨_, _, _, _, _, hfin, by k_ne, rfl, rfl⟩

set_option maxHeartbeats 8000000
/- what has been read of the text -/
inductive PhlI (x : Str) (l : Addr) (m₀ : Str → Option Value) (i : Nat) (m : Str → Option Value) (news : Led) : Prop
  | mk (P : PS) (tp : Tok) (rv : List Value) (er : Nat) (h1 : P = PS.run PS.start (x.cps.toList.take i)) (h2 : P.part.cps.size ≤ i) (h3 : P.res.length ≤ i) (h4 : Txts rv P.res)
    (h5 : Held m₀ [Str.ofString "cur"] [(Str.ofString "part", .str P.part tp), (Str.ofString "escape", .bool P.esc), (Str.ofString "quote", .bool P.quo)] m) (h6 : news = [(l, W.listOf rv.toArray er)])
set_option pp.deepTerms.threshold 9 in
theorem spec_phl {w : World} {mg mb : Str → Option Value} {p : Program} {loose : List Str} {mean : ExcName → Option Value}
  {dp un : Nat} {gd : Option (List Code)} {cn : Str} {cs : Scope} {a : Addr} {ccd : Value} {cl : List (Str × Addr)} {outer : List Env} {A₀ : Around} {base h₀ : Heap} {L : Addr} {m : Str → Option Value} {s : Shared} {Q E : Value → Shared → Prop}
  {news : Led} {x : Str} {tx : Tok}
  (cx : Cx w p loose mean mg mb A₀ base outer h₀ s.heap L m cs) (N : News h₀ L s.heap news)
  (ha : x.cps.all (· < 128) = true) (hlen : x.cps.size ≤ 40)
  (hdp : dp + 4 < recursionLimit) (hun : un + 100 < cLine)
  (hret : ∀ r vs ep h' tk', Txts vs ((PS.run PS.start x.cps.toList).fin.map Txt.strip) → Fr h₀ L h' m → News h₀ L h' ((r, W.listOf vs.toArray ep) :: news) → (∀ q ∈ news, q.1 ≠ r) → Q (.ref r) { s with heap := h', toks := tk' }) :
  wpAny (model PySem.Challenge.pw_pg0162_01 w) (ktrTop dp un gd cn cs L a ccd cl outer) (call (.ref 19) [.str x tx]) Q E s := by
  k_with_none
  k_with "CJ" => (first | exact cj0 (by with_reducible assumption) | exact cj1 (by with_reducible assumption) | exact cj2 (by with_reducible assumption) | exact cj2z (by with_reducible assumption) | exact cj3 (by with_reducible assumption) | exact cj3z (by with_reducible assumption) | exact cj4 (by with_reducible assumption) | exact cj4z (by with_reducible assumption) | exact cj5 (by with_reducible assumption) | exact cj5z (by with_reducible assumption) | exact cj6 (by with_reducible assumption) | exact cj6z (by with_reducible assumption) | exact cj7 (by with_reducible assumption) | exact cj7z (by with_reducible assumption))
  k_with "NE" => ((refine neN ?_; (try dsimp only); first | walk_at "CJ" | exact Ne.symm (by walk_at "CJ") | exact Nat.ne_of_lt (by walk_at "CJ") | exact Nat.ne_of_gt (by walk_at "CJ") | exact neP (by walk_at "CJ") | exact Ne.symm (neP (by walk_at "CJ")) | exact neQ (by decide) | exact neR (by decide) | exact Ne.symm (neR (by decide)) | lia))
  k_with "MEM" => (k_dflt assumption)
  k_with "ALL" => ((refine' TB.off (by assumption) (by k_asm) (by k_mem) (by first | (((intro _ zh9; (repeat (first | exact zh9 | exact List.mem_append_right _ zh9 | refine' List.Mem.tail _ ?_)))); done) | fail) (by first | ((first | (intro _ zh9; cases zh9; done) | (intro _ zh9; simp_all)); done) | fail)))
  k_with "ALL" => (first | assumption | exact ofAllLt (by assumption) | exact ofAllLt (allLt_left (by assumption)) | (refine' forallApp ?_ ?_ <;> k_all))
  k_with "ROOM" => (first | lia | ((try simp only [depth_under_make, depth_under_kw, depth_in1, depth_deeper, depth_caller, recursionLimit, units_in1, units_deeper, Around.mark_units, units_caller, cLine] at *); (try dsimp only [ktrTop] at *); lia))
  k_with "TAILIN" => ((intro _ zh9; (try simp only [List.nil_append] at zh9); (repeat (first | exact zh9 | refine' List.Mem.tail _ ?_))))
  k_with "SUBL" => (((try simp only [List.cons_append, List.nil_append]); (repeat (refine List.forall_mem_cons.mpr ⟨by k_mem, ?_⟩)); first | exact List.forall_mem_nil _ | walk_at "TAILIN"))
  k_with "CX" => (exact ⟨by k_asm, by k_asm, by k_asm, by k_asm, by first | exact rfl | assumption, by assumption, by assumption⟩)
  k_with "APP" => ((repeat (first | exact App.nil | exact App.gen _ _ | apply App.cons)))
  k_with "DIS" => ((repeat (first | exact Dis.nil | assumption | (refine' Dis.cons ?_ ?_; focus (first | assumption | k_all)))))
  k_with "call ref" => ((k_here; k_dflt (refine' spec_d2i (by first | ((walk_at "CX"); done) | fail) (by k_asm) (by assumption) (by first | ((walk_at "APP"); done) | fail) (by first | ((walk_at "DIS"); done) | fail) (by is_list) (by l_ints) (by lia) (by first | ((walk_at "LEN"); done) | fail) (by assumption) (by first | ((walk_at "ROOM"); done) | fail) (by first | ((walk_at "ROOM"); done) | fail) ?_; intro _ _ _ _ _ _ zN9 _; (try simp only [List.cons_append, List.nil_append] at zN9); (try dsimp only); (try k_fold))))
  k_with "call ref" => ((k_here; k_dflt (refine' spec_i2d (by first | ((walk_at "CX"); done) | fail) (by k_asm) (by assumption) (by first | ((walk_at "APP"); done) | fail) (by first | ((walk_at "DIS"); done) | fail) (by lia) (by lia) (by assumption) _ (by assumption) (by lia) (by assumption) (by first | ((walk_at "ROOM"); done) | fail) (by first | ((walk_at "ROOM"); done) | fail) ?_; intro _ _ _ _ _ _ _ _ _ zN9 zhf9 _; (try simp only [List.cons_append, List.nil_append] at zN9); (replace zhf9 := allNe_of zhf9; try simp only [AllNe, and_true] at zhf9); (try dsimp only); (try k_fold))))
  k_with "call ref" => ((k_here; k_dflt (refine' spec_d2n (by first | ((walk_at "CX"); done) | fail) (by k_asm) (by assumption) (by assumption) (by assumption) (by first | ((walk_at "ROOM"); done) | fail) (by first | ((walk_at "ROOM"); done) | fail) ?_; intro _ _ _ _ _ _ _ zhf9; (replace zhf9 := allNe_of zhf9; simp only [AllNe, and_true] at zhf9); (try dsimp only); (try k_fold))))
  k_with "LEN" => (first | lia | ((try simp only [List.length_reverse, List.length_append, List.length_map, List.length_cons, List.length_nil, digs_length]); lia))
  k_with "call builtin:list.append" => ((k_here; k_dflt ((try dsimp only); refine' append_K (by k_asm) (by k_asm) (by k_upd) ?_ (by first | ((first | size_fits | (rw [sizeLine_eq]; simp only [List.size_toArray]; lia)); done) | fail)); intro _ _ zN9; (try simp only [List.push_toArray] at zN9); (try k_sweep)))
  k_with "OFF1" => ((repeat (first | exact List.forall_mem_nil _ | (refine' List.forall_mem_cons.mpr ⟨?_, ?_⟩; focus k_ne) | assumption | exact ofAllLt (by assumption) | k_all)))
  k_with "OFF" => ((refine' offSwap ?_; (repeat (first | exact List.forall_mem_nil _ | (refine' List.forall_mem_cons.mpr ⟨?_, ?_⟩; focus walk_at "OFF1")))))
  k_with "call builtin:list.reverse" => ((k_here; k_dflt ((try dsimp only); refine' kl_reverseU (by k_asm) (by k_asm) (by k_upd) (by exact rev_arr _) (by exact szl (by assumption)) ?_); intro _ _ _; (try k_sweep)))
  k_with "call ref" => ((k_here; k_dflt (refine' spec_dpos (by first | ((walk_at "CX"); done) | fail) (by k_asm) (by assumption) (by first | ((walk_at "APP"); done) | fail) (by first | ((walk_at "DIS"); done) | fail) (by first | ((first | assumption | lia); done) | fail) (by first | ((first | assumption | lia); done) | fail) (by assumption) (by assumption) (by first | ((walk_at "ROOM"); done) | fail) (by first | ((walk_at "ROOM"); done) | fail) ?_; intro _ _ _ _ _ _ _ _ zN9 zhf9 _; (try simp only [List.cons_append, List.nil_append] at zN9); (replace zhf9 := allNe_of zhf9; try simp only [AllNe, and_true] at zhf9); (try dsimp only); (try k_fold))))
  k_with "call ref" => ((k_here; k_dflt (refine' spec_idm (by first | ((walk_at "CX"); done) | fail) (by k_asm) (by assumption) (by first | ((walk_at "APP"); done) | fail) (by first | ((walk_at "DIS"); done) | fail) (by first | ((first | assumption | lia); done) | fail) (by first | ((first | assumption | lia); done) | fail) (by assumption) (by assumption) (by first | ((walk_at "ROOM"); done) | fail) (by first | ((walk_at "ROOM"); done) | fail) ?_; intro _ _ _ _ _ _ _ _ zN9 zhf9 _; (try simp only [List.cons_append, List.nil_append] at zN9); (replace zhf9 := allNe_of zhf9; try simp only [AllNe, and_true] at zhf9); (try dsimp only); (try k_fold))))
  k_with "call type:list" => ((k_here; k_dflt (refine' list_revK (by exact rfl) (by k_asm) (by k_asm) (by first | ((first | k_all | fail); done) | fail) (by is_list) (by l_ints) (by first | ((walk_at "LEN"); done) | fail) ?_; intro _ _ _ _ _ _ _ _ _; (try k_sweep))))
  k_with "call builtin:len" => ((k_here; k_dflt (refine' len_ints (by is_list) (by l_ints) (by first | ((first | exact digs_length _ _ _ | exact rfl); done) | fail) (by lia) ?_; (try dsimp only))))
  k_with "SUMLEN" => (((try simp only [digs_length, List.length_append, List.length_reverse, List.length_map]); (simp only [sizeLine_eq]); first | lia | (rename_i e2' e3'; simp_all; lia)))
  k_with "binaryOp Add ref ref" => ((k_here; (with_reducible show wpAny _ _ (binaryOp _ (Value.ref _) (Value.ref _)) _ _ _); k_dflt ((try dsimp only); refine' kmk_add_ints (by k_asm) (by k_asm) (by kmk_list) (by kmk_list) (by l_ints) (by l_ints) ?_ (by first | ((first | walk_at "SUMLEN" | fail); done) | fail)); intro _ _ _ _ _ zl1 _; (try k_lt zl1); (try k_sweep)))
  k_with "TAILIN1" => ((repeat (first | assumption | refine' List.Mem.tail _ ?_)))
  k_with "call ref" => ((k_here; k_dflt (refine' spec_div (by first | ((walk_at "CX"); done) | fail) (by k_asm) (by assumption) (by first | ((walk_at "APP"); done) | fail) (by first | ((walk_at "DIS"); done) | fail) (by first | ((first | is_list | exact News.isList (by k_asm) (by walk_at "MEMU")); done) | fail) (by first | ((first | assumption | l_ints); done) | fail) (by assumption) (by first | ((walk_at "LEN"); done) | fail) (by assumption) (by assumption) (by first | ((first | exact .inl rfl | exact .inr rfl); done) | fail) (by first | ((walk_at "ROOM"); done) | fail) (by first | ((walk_at "ROOM"); done) | fail) ?_; intro _ _ _ _ _ _ _ _ _ _ _ zN9 zhr9 zhf9 _ _; (try simp only [List.cons_append, List.nil_append] at zN9); (replace zhr9 := allNe_of zhr9; try simp only [AllNe, and_true] at zhr9); (replace zhf9 := allNe_of zhf9; try simp only [AllNe, and_true] at zhf9); (try dsimp only); (try k_fold))))
  k_with "MEMU" => ((repeat (first | exact List.mem_append_left _ (by assumption) | refine' List.Mem.tail _ ?_)))
  k_with "exec For Name Name cons nil" => ((k_here; (with_unfolding_all refine' For_turns (by with_reducible assumption) ?_ (fun _ => rfl) PassesOwn.never)))
  k_with "STRLEN" => (first | (simp only [sizeLine_eq]; show Array.size _ + Array.size _ ≤ _; simp only [List.size_toArray, List.length_cons, List.length_nil]; lia))
  k_with "inplaceOp" => ((k_here; k_dflt ((try dsimp only); refine' iadd_str ?_ (by first | ((walk_at "STRLEN"); done) | fail); intro _ _; (try dsimp only))))
  k_with "truthy" => ((k_here; dsimp only; k_dflt (refine SBL.truthy (by show ((Array.size _ : Nat) : Int) < _; lia) ?_)))
  k_with "eval ListComp" => ((k_here; lcg_look; lcg_calm; k_dflt (refine LCg.ListComp_U (F₀ := by k_asm) (by with_unfolding_all rfl) (by decide) (by rfl) (by decide) (by rfl) ?_)))
  w_on
  w_top on
  obtain ⟨B, F, X, T, hk, CA, CB⟩ := cx
  have hdp' : dp + 4 < 1000 := hdp
  have hun' : un + 100 < 9900 := hun
  have hgb : GotBack NoT h₀ L m news s (fun v new => ∃ r vs ep, Txts vs ((PS.run PS.start x.cps.toList).fin.map Txt.strip) ∧ v = .ref r ∧ new = [(r, W.listOf vs.toArray ep)]) Q := by
    rintro _ _ t' h' tk' rfl ⟨r, vs, ep, hv, rfl, rfl⟩ F' N' dn dt
    rw [List.append_nil] at N'
    exact hret r vs ep h' tk' hv F' N' fun q hq => dn q hq _ (.head _)
  clear hret
  have N0 : News h₀ L s.heap (news ++ []) := by rw [List.append_nil]; exact N
  have hown : Dis news [] := fun _ _ _ h => nomatch h
  first | k_dflt ((
        refine' enterP ?k1 ?k2 ?k3 ?k4 ?k5 ?k6 ?kA ?kF ?kK ?k7 ?kd ?k8 ?k9 ?kb ?kB ?kr ?_ ?kc ?c2 ?c3 ?c4
        (case kr => assumption); (case kA => exact rfl); (case kF => exact rfl); (case kK => assumption)
        (case k1 => k_asm); (case k2 => k_asm); (case k3 => k_asm); (case k4 => k_asm); (case k5 => k_asm); (case k6 => assumption)
        (case k7 => k_is); (case kd => exact rfl); (case k8 => k_is); (case k9 => walk_at "ROOM"); (case kb => exact BindsTo.of_eq rfl); (case kB => exact locs rfl); (case kc => decide); (case c2 => exact rfl); (case c3 => exact rfl); (case c4 => exact rfl))) | fail
  intro g' L' h' hkg F' N' B' X' T' l1
  refine holdQ ?_
  intro QR hQR
  clear hkg hgb N0 N F B X T hown l1
  (try dsimp only)
  (try k_fold)
  k_steps
  rename_i l hz4 lt hz5 hz6 hz7 hz8 F0 N0
  k_dflt refine' iter_strTurns ?hh ?F ?N ha (fun m₀ i m news => PhlI x l m₀ i m news) ?start ?step ?done
  case hh => exact rfl
  case F => k_asm
  case N => k_asm
  case start =>
    refine' ⟨PS.start, ?tp, [], 0, rfl, Nat.le_refl _, Nat.le_refl _, .nil, ⟨?h1, fun z g1 g2 => rfl⟩, rfl⟩
    case h1 => refine List.forall_mem_cons.mpr ⟨?_, List.forall_mem_cons.mpr ⟨?_, List.forall_mem_cons.mpr ⟨?_, List.forall_mem_nil _⟩⟩⟩ <;> exact rfl
  case step =>
    intro I lI i m9 news9 c u hc hz0 H tk F9
    refine hide ?_
    intro Z hZ
    obtain ⟨P, tp, rv, er, hP, hp1, hp2, hT, hH, rfl⟩ := hz0
    refine hZ ?_
    clear hZ Z
    have hi : i < x.cps.size := (Array.getElem?_eq_some_iff.mp hc).1
    have F9 := hH.fr F9
    refine AllObj.cons (w := (_, _)) fun it hit => AllObj.nil ?_
    intro N9
    simp only [List.cons_append, List.nil_append] at N9
    refine holdT ?_
    intro QT hQT
    obtain ⟨res, part, esc, quo⟩ := P
    have hp1 : part.cps.size ≤ i := hp1
    have hp2 : res.length ≤ i := hp2
    have hT : Txts rv res := hT
    have hsn : PS.run PS.start (x.cps.toList.take (i + 1)) = PS.step ⟨res, part, esc, quo⟩ c := by
      have e : x.cps.toList.take (i + 1) = x.cps.toList.take i ++ [c] := by
        rw [List.take_add_one, show x.cps.toList[i]? = some c by simpa using hc]; rfl
      rw [e, hP]
      show List.foldl _ _ _ = _
      rw [List.foldl_append]; rfl
    have hlt9 : @LT.lt Nat _ l I := lI _ (.head _)
    have hrl : rv.length ≤ 64 := by rw [hT.length]; lia
    cases esc
    · cases quo
      · dsimp only at hp1 hp2 hT F9
        (try dsimp only)
        (try k_fold)
        k_steps
        all_goals ((
              refine' hQT _ _ ?_
              first | refine' TurnP.cont ?F ?N [(l, _)] ?hs ?off ?r | refine' TurnP.next ?F ?N [(l, _)] ?hs ?off ?r
              (case F => k_asm); (case N => k_asm); (case hs => first | walk_at "SUBL" | fail); (case off => first | walk_at "OFF" | fail)
              (case r =>
                refine' ⟨(fun _ h => nomatch h), ⟨_, _, _, _⟩, _, _, _, ?eq, ?b1, ?b2, ?hT, ⟨?h1, ?h2⟩, rfl⟩
                (case h1 => refine List.forall_mem_cons.mpr ⟨?_, List.forall_mem_cons.mpr ⟨?_, List.forall_mem_cons.mpr ⟨?_, List.forall_mem_nil _⟩⟩⟩ <;> exact rfl)
                (case hT => first | exact hT | exact hT.append (.cons _ _ .nil))
                (case h2 => intro z g1 g2; have a1 := g1 _ (.head _); have a2 := g1 _ (.tail _ (.head _)); have a3 := g1 _ (.tail _ (.tail _ (.head _))); have a4 := notIn g2 _ (.head _); (repeat (first | with_reducible exact rfl | with_reducible refine stIf (by assumption) ?_ | with_reducible refine stCons (by assumption) ?_ | with_reducible refine stNil ?_ | with_reducible refine stCon (by assumption) ?_)))
                (case eq => rw [hsn]; clear hP hsn; first | rfl | ((simp only [PS.step, isC, *, if_true, if_false, Bool.false_eq_true]) <;> rfl))
                (case b1 => first | exact Nat.le_succ_of_le hp1 | exact Nat.zero_le _ | (show Array.size (_ ++ _) ≤ _; simp only [Array.size_append, List.size_toArray, List.length_cons, List.length_nil]; lia))
                (case b2 => first | exact Nat.le_succ_of_le hp2 | (show List.length (_ ++ _) ≤ _; rw [List.length_append]; show _ + 1 ≤ _; lia)))))
        all_goals exact (fun _ _ => True : Flow → Shared → Prop)
      · dsimp only at hp1 hp2 hT F9
        (try dsimp only)
        (try k_fold)
        k_steps
        all_goals ((
              refine' hQT _ _ ?_
              first | refine' TurnP.cont ?F ?N [(l, _)] ?hs ?off ?r | refine' TurnP.next ?F ?N [(l, _)] ?hs ?off ?r
              (case F => k_asm); (case N => k_asm); (case hs => first | walk_at "SUBL" | fail); (case off => first | walk_at "OFF" | fail)
              (case r =>
                refine' ⟨(fun _ h => nomatch h), ⟨_, _, _, _⟩, _, _, _, ?eq, ?b1, ?b2, ?hT, ⟨?h1, ?h2⟩, rfl⟩
                (case h1 => refine List.forall_mem_cons.mpr ⟨?_, List.forall_mem_cons.mpr ⟨?_, List.forall_mem_cons.mpr ⟨?_, List.forall_mem_nil _⟩⟩⟩ <;> exact rfl)
                (case hT => first | exact hT | exact hT.append (.cons _ _ .nil))
                (case h2 => intro z g1 g2; have a1 := g1 _ (.head _); have a2 := g1 _ (.tail _ (.head _)); have a3 := g1 _ (.tail _ (.tail _ (.head _))); have a4 := notIn g2 _ (.head _); (repeat (first | with_reducible exact rfl | with_reducible refine stIf (by assumption) ?_ | with_reducible refine stCons (by assumption) ?_ | with_reducible refine stNil ?_ | with_reducible refine stCon (by assumption) ?_)))
                (case eq => rw [hsn]; clear hP hsn; first | rfl | ((simp only [PS.step, isC, *, if_true, if_false, Bool.false_eq_true]) <;> rfl))
                (case b1 => first | exact Nat.le_succ_of_le hp1 | exact Nat.zero_le _ | (show Array.size (_ ++ _) ≤ _; simp only [Array.size_append, List.size_toArray, List.length_cons, List.length_nil]; lia))
                (case b2 => first | exact Nat.le_succ_of_le hp2 | (show List.length (_ ++ _) ≤ _; rw [List.length_append]; show _ + 1 ≤ _; lia)))))
        all_goals exact (fun _ _ => True : Flow → Shared → Prop)
    · dsimp only at hp1 hp2 hT F9
      (try dsimp only)
      (try k_fold)
      k_steps
      all_goals ((
            refine' hQT _ _ ?_
            first | refine' TurnP.cont ?F ?N [(l, _)] ?hs ?off ?r | refine' TurnP.next ?F ?N [(l, _)] ?hs ?off ?r
            (case F => k_asm); (case N => k_asm); (case hs => first | walk_at "SUBL" | fail); (case off => first | walk_at "OFF" | fail)
            (case r =>
              refine' ⟨(fun _ h => nomatch h), ⟨_, _, _, _⟩, _, _, _, ?eq, ?b1, ?b2, ?hT, ⟨?h1, ?h2⟩, rfl⟩
              (case h1 => refine List.forall_mem_cons.mpr ⟨?_, List.forall_mem_cons.mpr ⟨?_, List.forall_mem_cons.mpr ⟨?_, List.forall_mem_nil _⟩⟩⟩ <;> exact rfl)
              (case hT => first | exact hT | exact hT.append (.cons _ _ .nil))
              (case h2 => intro z g1 g2; have a1 := g1 _ (.head _); have a2 := g1 _ (.tail _ (.head _)); have a3 := g1 _ (.tail _ (.tail _ (.head _))); have a4 := notIn g2 _ (.head _); (repeat (first | with_reducible exact rfl | with_reducible refine stIf (by assumption) ?_ | with_reducible refine stCons (by assumption) ?_ | with_reducible refine stNil ?_ | with_reducible refine stCon (by assumption) ?_)))
              (case eq => rw [hsn]; clear hP hsn; first | rfl | ((simp only [PS.step, isC, *, if_true, if_false, Bool.false_eq_true]) <;> rfl))
              (case b1 => first | exact Nat.le_succ_of_le hp1 | exact Nat.zero_le _ | (show Array.size (_ ++ _) ≤ _; simp only [Array.size_append, List.size_toArray, List.length_cons, List.length_nil]; lia))
              (case b2 => first | exact Nat.le_succ_of_le hp2 | (show List.length (_ ++ _) ≤ _; rw [List.length_append]; show _ + 1 ≤ _; lia)))))
      all_goals exact (fun _ _ => True : Flow → Shared → Prop)
  case done =>
    intro m9 news9 hz0 H tk F9 N9
    refine hide ?_
    intro Z hZ
    obtain ⟨P, tp, rv, er, hP, hp1, hp2, hT, hH, rfl⟩ := hz0
    refine hZ ?_
    clear hZ Z
    rw [List.take_of_length_le (by simp)] at hP
    have F9 := hH.fr F9
    have hrl : rv.length ≤ 64 := by rw [hT.length]; lia
    have hsm0 := PS.run_small 40 x.cps.toList PS.start (fun _ h => nomatch h) (by show 0 + _ ≤ 40; simp; lia)
    rw [← hP] at hsm0
    obtain ⟨res, part, esc, quo⟩ := P
    dsimp only at hp1 hp2 hT F9 hsm0
    have hsm : ∀ y ∈ (res ++ [part]), y.cps.size ≤ 40 := by
      intro y hy
      rcases List.mem_append.mp hy with hy | hy
      · exact hsm0 y hy
      · rw [List.mem_singleton.mp hy]; lia
    (try dsimp only)
    (try k_fold)
    k_steps
    · have hemp : ¬ part.cps.size = 0 := by
        rename (¬ (_ = _)) => hq
        intro e
        exact hq (by show ((part.cps.size : Nat) : Int) = 0; rw [e]; rfl)
      k_dflt refine LCg.CompSrc.ledger (its := (rv ++ [Value.str part tp]).toArray) (by rfl) (by k_asm) (by k_asm) (by k_mem) (by rw [sizeLine_eq]; simp; lia) ?_
      intro g9
      have hT9 : Txts (rv ++ [Value.str part tp]) (res ++ [part]) := hT.append1 part tp
      have hs9 : ∀ y ∈ (res ++ [part]), y.cps.size ≤ 40 := hsm
      refine comp_map (n := (rv ++ [Value.str part tp]).toArray.size) (fun i y => ∃ z t, ((res ++ [part]).map Txt.strip)[i]? = some z ∧ y = .str z t) ?hS ?fin ?step _ 0 [] (Nat.zero_add _) rfl (fun j y h => by simp at h)
      case hS => exact .inr ⟨_, by k_mem, rfl, _, rfl⟩
      case fin =>
        intro ys hl hr
        have hys : Txts ys ((res ++ [part]).map Txt.strip) := Txts.of (by rw [hl]; simp [hT9.length]) hr
        unfold LCg.FinE
        intro D8 h8 tk8 F8 N8 o8
        (try simp only [LCg.Off1, and_true] at o8)
        (try dsimp only)
        have e8 : (PS.run PS.start x.cps.toList).fin = (res ++ [part]) := by rw [← hP]; exact if_neg hemp
        exact hQR _ _ <| Ret.intro (t' := []) [(_, _)] rfl (by k_asm) (by k_asm) (by first | walk_at "SUBL" | fail) ⟨_, _, _, by rw [e8]; exact hys, rfl, rfl⟩
      case step =>
        intro i v I9 oI C9 oC D9 m₂ h8 tk8 E8 ys hP9 hC hx F8 N8 off ne
        obtain ⟨z, t9, hz, rfl⟩ := hT9.get (by simpa using hP9)
        have hz40 : z.cps.size ≤ 40 := hs9 z (List.mem_of_getElem? hz)
        have hz41 : z.length ≤ 40 := hz40
        (try simp only [LCg.Off3, and_true] at off)
        (try dsimp only)
        k_steps
        all_goals first | assumption | exact rfl | (rw [List.getElem?_map, hz]; exact rfl)
    · have hemp : part.cps.size = 0 := by
        rename (_ = (0 : Int)) => hq
        have hq' : ((part.cps.size : Nat) : Int) = 0 := hq
        lia
      k_dflt refine LCg.CompSrc.ledger (its := (rv).toArray) (by rfl) (by k_asm) (by k_asm) (by k_mem) (by rw [sizeLine_eq]; simp; lia) ?_
      intro g9
      have hT9 : Txts (rv) res := hT
      have hs9 : ∀ y ∈ res, y.cps.size ≤ 40 := fun y hy => hsm y (List.mem_append_left _ hy)
      refine comp_map (n := (rv).toArray.size) (fun i y => ∃ z t, (res.map Txt.strip)[i]? = some z ∧ y = .str z t) ?hS ?fin ?step _ 0 [] (Nat.zero_add _) rfl (fun j y h => by simp at h)
      case hS => exact .inr ⟨_, by k_mem, rfl, _, rfl⟩
      case fin =>
        intro ys hl hr
        have hys : Txts ys (res.map Txt.strip) := Txts.of (by rw [hl]; simp [hT9.length]) hr
        unfold LCg.FinE
        intro D8 h8 tk8 F8 N8 o8
        (try simp only [LCg.Off1, and_true] at o8)
        (try dsimp only)
        have e8 : (PS.run PS.start x.cps.toList).fin = res := by rw [← hP]; exact if_pos hemp
        exact hQR _ _ <| Ret.intro (t' := []) [(_, _)] rfl (by k_asm) (by k_asm) (by first | walk_at "SUBL" | fail) ⟨_, _, _, by rw [e8]; exact hys, rfl, rfl⟩
      case step =>
        intro i v I9 oI C9 oC D9 m₂ h8 tk8 E8 ys hP9 hC hx F8 N8 off ne
        obtain ⟨z, t9, hz, rfl⟩ := hT9.get (by simpa using hP9)
        have hz40 : z.cps.size ≤ 40 := hs9 z (List.mem_of_getElem? hz)
        have hz41 : z.length ≤ 40 := hz40
        (try simp only [LCg.Off3, and_true] at off)
        (try dsimp only)
        k_steps
        all_goals first | assumption | exact rfl | (rw [List.getElem?_map, hz]; exact rfl)

set_option maxHeartbeats 8000000
set_option pp.deepTerms.threshold 7 in
theorem spec_shl {w : World} {mg mb : Str → Option Value} {p : Program} {loose : List Str} {mean : ExcName → Option Value}
  {dp un : Nat} {gd : Option (List Code)} {cn : Str} {cs : Scope} {a : Addr} {ccd : Value} {cl : List (Str × Addr)} {outer : List Env} {A₀ : Around} {base h₀ : Heap} {L : Addr} {m : Str → Option Value} {s : Shared} {Q E : Value → Shared → Prop}
  {news own t : Led} {x : Str} {ms : List Int} {wd : Nat} {tx tw : Tok}
  (cx : Cx w p loose mean mg mb A₀ base outer h₀ s.heap L m cs) (N : News h₀ L s.heap news) (htb : TB t) (hap : App news own t) (hown : Dis own t)
  (hms : ms = shM 0 (sgs x ++ [Str.ofString ""])) (hlen : x.cps.size ≤ 30) (h6 : 6 ≤ wd) (h55 : wd ≤ 55)
  (hdp : dp + 90 < recursionLimit) (hun : un + 910 < cLine)
  (hret : ∀ r f fv ep t2 t' h' tk', IntsAre fv (digs wd ms.length ((digVal wd ms.reverse).fdiv (2 ^ wd + 1))).reverse → TB t' → Fr h₀ L h' m →
    News h₀ L h' ((r, tupRI f ((digVal wd ms.reverse).fmod (2 ^ wd + 1)) t2) :: (f, W.listOf fv.toArray ep) :: (own ++ t')) → (∀ q ∈ own, q.1 ≠ r) → (∀ q ∈ own, q.1 ≠ f) → f ≠ r → Dis own t' → Q (.ref r) { s with heap := h', toks := tk' }) :
  wpAny (model PySem.Challenge.pw_pg0162_01 w) (ktrTop dp un gd cn cs L a ccd cl outer) (call (.ref 75) [.str x tx, .int (wd : Int) tw]) Q E s := by
  k_with_none
  k_with "CJ" => (first | exact cj0 (by with_reducible assumption) | exact cj1 (by with_reducible assumption) | exact cj2 (by with_reducible assumption) | exact cj2z (by with_reducible assumption) | exact cj3 (by with_reducible assumption) | exact cj3z (by with_reducible assumption) | exact cj4 (by with_reducible assumption) | exact cj4z (by with_reducible assumption) | exact cj5 (by with_reducible assumption) | exact cj5z (by with_reducible assumption) | exact cj6 (by with_reducible assumption) | exact cj6z (by with_reducible assumption) | exact cj7 (by with_reducible assumption) | exact cj7z (by with_reducible assumption))
  k_with "NE" => ((refine neN ?_; (try dsimp only); first | walk_at "CJ" | exact Ne.symm (by walk_at "CJ") | exact Nat.ne_of_lt (by walk_at "CJ") | exact Nat.ne_of_gt (by walk_at "CJ") | exact neP (by walk_at "CJ") | exact Ne.symm (neP (by walk_at "CJ")) | exact neQ (by decide) | exact neR (by decide) | exact Ne.symm (neR (by decide)) | lia))
  k_with "MEM" => (k_dflt assumption)
  k_with "ALL" => ((refine' TB.off (by assumption) (by k_asm) (by k_mem) (by first | (((intro _ zh9; (repeat (first | exact zh9 | exact List.mem_append_right _ zh9 | refine' List.Mem.tail _ ?_)))); done) | fail) (by first | ((first | (intro _ zh9; cases zh9; done) | (intro _ zh9; simp_all)); done) | fail)))
  k_with "ALL" => (first | assumption | exact ofAllLt (by assumption) | exact ofAllLt (allLt_left (by assumption)) | (refine' forallApp ?_ ?_ <;> k_all))
  k_with "ROOM" => (first | lia | ((try simp only [depth_under_make, depth_under_kw, depth_in1, depth_deeper, depth_caller, recursionLimit, units_in1, units_deeper, Around.mark_units, units_caller, cLine] at *); (try dsimp only [ktrTop] at *); lia))
  k_with "TAILIN" => ((intro _ zh9; (try simp only [List.nil_append] at zh9); (repeat (first | exact zh9 | refine' List.Mem.tail _ ?_))))
  k_with "SUBL" => (((try simp only [List.cons_append, List.nil_append]); (repeat (refine List.forall_mem_cons.mpr ⟨by k_mem, ?_⟩)); first | exact List.forall_mem_nil _ | walk_at "TAILIN"))
  k_with "CX" => (exact ⟨by k_asm, by k_asm, by k_asm, by k_asm, by first | exact rfl | assumption, by assumption, by assumption⟩)
  k_with "APP" => ((repeat (first | exact App.nil | exact App.gen _ _ | apply App.cons)))
  k_with "DIS" => ((repeat (first | exact Dis.nil | assumption | (refine' Dis.cons ?_ ?_; focus (first | assumption | k_all)))))
  k_with "call ref" => ((k_here; k_dflt (refine' spec_d2i (by first | ((walk_at "CX"); done) | fail) (by k_asm) (by assumption) (by first | ((walk_at "APP"); done) | fail) (by first | ((walk_at "DIS"); done) | fail) (by is_list) (by l_ints) (by lia) (by first | ((walk_at "LEN"); done) | fail) (by assumption) (by first | ((walk_at "ROOM"); done) | fail) (by first | ((walk_at "ROOM"); done) | fail) ?_; intro _ _ _ _ _ _ zN9 _; (try simp only [List.cons_append, List.nil_append] at zN9); (try dsimp only); (try k_fold))))
  k_with "call ref" => ((k_here; k_dflt (refine' spec_i2d (by first | ((walk_at "CX"); done) | fail) (by k_asm) (by assumption) (by first | ((walk_at "APP"); done) | fail) (by first | ((walk_at "DIS"); done) | fail) (by lia) (by lia) (by assumption) _ (by assumption) (by lia) (by assumption) (by first | ((walk_at "ROOM"); done) | fail) (by first | ((walk_at "ROOM"); done) | fail) ?_; intro _ _ _ _ _ _ _ _ _ zN9 zhf9 _; (try simp only [List.cons_append, List.nil_append] at zN9); (replace zhf9 := allNe_of zhf9; try simp only [AllNe, and_true] at zhf9); (try dsimp only); (try k_fold))))
  k_with "call ref" => ((k_here; k_dflt (refine' spec_d2n (by first | ((walk_at "CX"); done) | fail) (by k_asm) (by assumption) (by assumption) (by assumption) (by first | ((walk_at "ROOM"); done) | fail) (by first | ((walk_at "ROOM"); done) | fail) ?_; intro _ _ _ _ _ _ _ zhf9; (replace zhf9 := allNe_of zhf9; simp only [AllNe, and_true] at zhf9); (try dsimp only); (try k_fold))))
  k_with "LEN" => (first | lia | ((try simp only [List.length_reverse, List.length_append, List.length_map, List.length_cons, List.length_nil, digs_length]); lia))
  k_with "call builtin:list.append" => ((k_here; k_dflt ((try dsimp only); refine' append_K (by k_asm) (by k_asm) (by k_upd) ?_ (by first | ((first | size_fits | (rw [sizeLine_eq]; simp only [List.size_toArray]; lia)); done) | fail)); intro _ _ zN9; (try simp only [List.push_toArray] at zN9); (try k_sweep)))
  k_with "OFF1" => ((repeat (first | exact List.forall_mem_nil _ | (refine' List.forall_mem_cons.mpr ⟨?_, ?_⟩; focus k_ne) | assumption | exact ofAllLt (by assumption) | k_all)))
  k_with "OFF" => ((refine' offSwap ?_; (repeat (first | exact List.forall_mem_nil _ | (refine' List.forall_mem_cons.mpr ⟨?_, ?_⟩; focus walk_at "OFF1")))))
  k_with "call builtin:list.reverse" => ((k_here; k_dflt ((try dsimp only); refine' kl_reverseU (by k_asm) (by k_asm) (by k_upd) (by exact rev_arr _) (by exact szl (by assumption)) ?_); intro _ _ _; (try k_sweep)))
  k_with "call ref" => ((k_here; k_dflt (refine' spec_dpos (by first | ((walk_at "CX"); done) | fail) (by k_asm) (by assumption) (by first | ((walk_at "APP"); done) | fail) (by first | ((walk_at "DIS"); done) | fail) (by first | ((first | assumption | lia); done) | fail) (by first | ((first | assumption | lia); done) | fail) (by assumption) (by assumption) (by first | ((walk_at "ROOM"); done) | fail) (by first | ((walk_at "ROOM"); done) | fail) ?_; intro _ _ _ _ _ _ _ _ zN9 zhf9 _; (try simp only [List.cons_append, List.nil_append] at zN9); (replace zhf9 := allNe_of zhf9; try simp only [AllNe, and_true] at zhf9); (try dsimp only); (try k_fold))))
  k_with "call ref" => ((k_here; k_dflt (refine' spec_idm (by first | ((walk_at "CX"); done) | fail) (by k_asm) (by assumption) (by first | ((walk_at "APP"); done) | fail) (by first | ((walk_at "DIS"); done) | fail) (by first | ((first | assumption | lia); done) | fail) (by first | ((first | assumption | lia); done) | fail) (by assumption) (by assumption) (by first | ((walk_at "ROOM"); done) | fail) (by first | ((walk_at "ROOM"); done) | fail) ?_; intro _ _ _ _ _ _ _ _ zN9 zhf9 _; (try simp only [List.cons_append, List.nil_append] at zN9); (replace zhf9 := allNe_of zhf9; try simp only [AllNe, and_true] at zhf9); (try dsimp only); (try k_fold))))
  k_with "call type:list" => ((k_here; k_dflt (refine' list_revK (by exact rfl) (by k_asm) (by k_asm) (by first | ((first | k_all | fail); done) | fail) (by is_list) (by l_ints) (by first | ((walk_at "LEN"); done) | fail) ?_; intro _ _ _ _ _ _ _ _ _; (try k_sweep))))
  k_with "call builtin:len" => ((k_here; k_dflt (refine' len_ints (by is_list) (by l_ints) (by first | ((first | exact digs_length _ _ _ | exact rfl); done) | fail) (by lia) ?_; (try dsimp only))))
  k_with "SUMLEN" => (((try simp only [digs_length, List.length_append, List.length_reverse, List.length_map]); (simp only [sizeLine_eq]); first | lia | (rename_i e2' e3'; simp_all; lia)))
  k_with "binaryOp Add ref ref" => ((k_here; (with_reducible show wpAny _ _ (binaryOp _ (Value.ref _) (Value.ref _)) _ _ _); k_dflt ((try dsimp only); refine' kmk_add_ints (by k_asm) (by k_asm) (by kmk_list) (by kmk_list) (by l_ints) (by l_ints) ?_ (by first | ((first | walk_at "SUMLEN" | fail); done) | fail)); intro _ _ _ _ _ zl1 _; (try k_lt zl1); (try k_sweep)))
  k_with "TAILIN1" => ((repeat (first | assumption | refine' List.Mem.tail _ ?_)))
  k_with "call ref" => ((k_here; k_dflt (refine' spec_div (by first | ((walk_at "CX"); done) | fail) (by k_asm) (by assumption) (by first | ((walk_at "APP"); done) | fail) (by first | ((walk_at "DIS"); done) | fail) (by first | ((first | is_list | exact News.isList (by k_asm) (by walk_at "MEMU")); done) | fail) (by first | ((first | assumption | l_ints); done) | fail) (by assumption) (by first | ((walk_at "LEN"); done) | fail) (by assumption) (by assumption) (by first | ((first | exact .inl rfl | exact .inr rfl); done) | fail) (by first | ((walk_at "ROOM"); done) | fail) (by first | ((walk_at "ROOM"); done) | fail) ?_; intro _ _ _ _ _ _ _ _ _ _ _ zN9 zhr9 zhf9 _ _; (try simp only [List.cons_append, List.nil_append] at zN9); (replace zhr9 := allNe_of zhr9; try simp only [AllNe, and_true] at zhr9); (replace zhf9 := allNe_of zhf9; try simp only [AllNe, and_true] at zhf9); (try dsimp only); (try k_fold))))
  k_with "MEMU" => ((repeat (first | exact List.mem_append_left _ (by assumption) | refine' List.Mem.tail _ ?_)))
  k_with "exec For Name BinOp cons nil" => ((k_here; (with_unfolding_all refine' For_turns (by with_reducible assumption) ?_ (fun _ => rfl) PassesOwn.never)))
  k_with "call type:list" => ((k_here; k_dflt (refine' list_strK (by exact rfl) (by k_asm) (by k_asm) ?_ (by first | (((rw [sizeLine_eq]; lia)); done) | fail); intro _ _ _ _ _ _ _ _ _; (try k_sweep))))
  k_with "binaryOp Add ref ref" => ((k_here; (with_reducible show wpAny _ _ (binaryOp _ (Value.ref _) (Value.ref _)) _ _ _); k_dflt ((try dsimp only); refine' add_txts (ws := [Value.str _ _]) (by k_asm) (by k_asm) (by kmk_list) (by kmk_list) (by assumption) (by exact .cons _ _ .nil) ?_ (by first | (((rw [sizeLine_eq]; simp [sgs]; lia)); done) | fail)); intro _ _ _ _ _ _ zl1; (try k_lt zl1); (try k_sweep)))
  w_on
  w_top on
  obtain ⟨B, F, X, T, hk, CA, CB⟩ := cx
  have hdp' : dp + 90 < 1000 := hdp
  have hun' : un + 910 < 9900 := hun
  have e9 := hap.eq
  subst e9
  have hgb : GotBack TB h₀ L m own s (fun v new => ∃ r f fv ep t2, IntsAre fv (digs wd ms.length ((digVal wd ms.reverse).fdiv (2 ^ wd + 1))).reverse ∧ f ≠ r ∧ v = .ref r ∧ new = [(r, tupRI f ((digVal wd ms.reverse).fmod (2 ^ wd + 1)) t2), (f, W.listOf fv.toArray ep)]) Q := by
    rintro _ _ t' h' tk' htb' ⟨r, f, fv, ep, t2, hfv, hne, rfl, rfl⟩ F' N' dn dt
    exact hret r f fv ep t2 t' h' tk' hfv htb' F' N' (fun q hq => dn q hq _ (.head _)) (fun q hq => dn q hq _ (.tail _ (.head _))) hne dt
  clear hret
  first | k_dflt ((
        refine' enterP ?k1 ?k2 ?k3 ?k4 ?k5 ?k6 ?kA ?kF ?kK ?k7 ?kd ?k8 ?k9 ?kb ?kB ?kr ?_ ?kc ?c2 ?c3 ?c4
        (case kr => assumption); (case kA => exact rfl); (case kF => exact rfl); (case kK => assumption)
        (case k1 => k_asm); (case k2 => k_asm); (case k3 => k_asm); (case k4 => k_asm); (case k5 => k_asm); (case k6 => assumption)
        (case k7 => k_is); (case kd => exact rfl); (case k8 => k_is); (case k9 => walk_at "ROOM"); (case kb => exact BindsTo.of_eq rfl); (case kB => exact locs rfl); (case kc => decide); (case c2 => exact rfl); (case c3 => exact rfl); (case c4 => exact rfl))) | fail
  intro g' L' h' hkg F' N' B' X' T' l1
  refine holdQ ?_
  intro QR hQR
  clear hkg hgb N F B X T hown hap
  (try dsimp only)
  (try k_fold)
  k_steps
  rename_i lM z1 z2 DT z3 z4 z5 z6 z7 S z8 z9 us ep z10 hus lE z11 lt1 D uz z12 huz F0 N0
  have hul : us.length = x.cps.size := by rw [hus.length]; simp [sgs]
  have N1 : News g' L' _ ((D, W.listOf uz.toArray 0) :: (lM, W.listOf ([] : List Value).toArray 0) :: t) := newsSub N0 (by first | walk_at "SUBL" | fail)
  clear N0
  k_dflt refine' iter_listTurns (vs := uz) ?hh ?F ?N ?hm ?hc ?hd ?_
  case hh => exact rfl
  case F => k_asm
  case N => k_asm
  case hm => first | k_mem | fail
  case hc => exact rfl
  case hd => exact rfl
  intro I lI
  have hlt1 : @LT.lt Nat _ D I := lI _ (.head _)
  have hlt2 : @LT.lt Nat _ lM I := lI (lM, _) (by k_mem)
  have hltt : AllLt I t := allLt_of fun q hq => lI q (by first | walk_at "TAILIN1" | fail)
  refine rest_indM (fun m₀ xs m news => ∃ (lv : List Value) (zs : List Str) (run : Int) (tr : Tok) (mv : List Value) (done : List Int) (em : Nat), xs = lv.map .val ∧ Txts lv zs ∧ 0 ≤ run ∧ run + zs.length ≤ 40 ∧ IntsAre mv done ∧ done.length + zs.length ≤ 40 ∧ done ++ shM run zs = ms ∧
    Held m₀ [Str.ofString "sign"] [(Str.ofString "run", .int run tr)] m ∧ news = (D, W.listOf (uz).toArray 0) :: (lM, W.listOf mv.toArray em) :: t) ?step ?done ?start
  case start =>
    refine' ⟨uz, _, 0, _, [], [], 0, rfl, huz, Int.le_refl _, ?_, .nil, ?_, hms.symm, ⟨?h1, fun z g1 g2 => rfl⟩, rfl⟩
    case h1 => exact fun p hp => by rw [List.mem_singleton.mp hp]; exact rfl
    all_goals (simp only [sgs, List.length_append, List.length_map, List.length_singleton, Array.length_toList, List.length_nil]; lia)
  case step =>
    rintro it0 rr m9 news9 ⟨lv, zs, run, tr, mv, done, em, hxs, hlv, hr0, hr1, hmv, hdl, hdn, hH, rfl⟩ v H tk hv F9
    cases hlv with
    | nil => simp at hxs
    | cons z tz hlv =>
      simp only [List.map_cons, List.cons.injEq] at hxs
      obtain ⟨rfl, rfl⟩ := hxs
      have hv' : v = .str z tz := hv
      subst hv'
      have F9 := hH.fr F9
      have hml := hmv.length
      rw [List.length_cons] at hr1 hdl
      have hml2 : mv.length ≤ 64 := by lia
      refine AllObj.cons (w := (_, _)) fun it hit => AllObj.nil ?_
      intro N9
      simp only [List.cons_append, List.nil_append] at N9
      refine holdT ?_
      intro QT hQT
      (try dsimp only)
      (try k_fold)
      k_steps
      all_goals ((
            refine' hQT _ _ ?_
            refine' TurnP.next ?F ?N ((D, _) :: (lM, _) :: t) ?hs ?off ?r
            (case F => k_asm); (case N => k_asm); (case hs => first | walk_at "SUBL" | fail); (case off => first | walk_at "OFF" | fail)
            (case r =>
              refine' ⟨⟨.head _, trivial⟩, _, _, _, _, mv ++ [_], done ++ [_], em + 1, rfl, hlv, ?r0, ?r1, hmv.append (.cons _ _ .nil), ?dl, ?eq, ⟨?h1, ?h2⟩, rfl⟩
              (case eq => first | exact shM_t (by assumption) hdn | exact shM_f (by assumption) hdn)
              (case h1 => exact fun p hp => by rw [List.mem_singleton.mp hp]; exact rfl)
              (case h2 => intro z g1 g2; have a1 := g1 _ (.head _); have a4 := notIn g2 _ (.head _); simp only [kstB, a1, a4, g2, if_false, Bool.false_eq_true])
              (case r0 => lia)
              (case r1 => lia)
              (case dl => (rw [List.length_append, List.length_singleton]; lia)))))
  case done =>
    rintro m9 news9 ⟨lv, zs, run, tr, mv, done, em, hxs, hlv, hr0, hr1, hmv, hdl, hdn, hH, rfl⟩ H tk F9 N9
    have F9 := hH.fr F9
    cases hlv with
    | cons => simp at hxs
    | nil =>
      have hms9 : done = ms := by rw [← hdn]; simp [shM]
      subst hms9
      have hrng : ∀ y ∈ done, 0 ≤ y ∧ y < 2 ^ wd := by
        intro y hy
        have h1 := shM_range 0 _ y (by rw [hms] at hy; exact hy)
        have h2 : (2 : Int) ^ 1 ≤ 2 ^ wd := pow_mono2 (by lia)
        exact ⟨h1.1, by lia⟩
      (try dsimp only)
      (try k_fold)
      k_steps
      (rename IntsAre _ (List.reverse (digs _ _ _)) => hfin)
      exact hQR _ _ <| Ret.intro [(_, _), (_, _)] (by assumption) (by k_asm) (by k_asm) (by first | walk_at "SUBL" | fail) ⟨_, _, _, _, _, hfin, by first | k_ne | assumption, rfl, rfl⟩

set_option maxHeartbeats 8000000
/- the stretches -/
structure SS where
  fin : List (List Int)
  cur : List Int
def SS.step (p : SS) (c : Nat) (k : Int) : SS :=
  let q : SS := if isC c (Str.ofString "\"") && k != 0 then ⟨p.fin ++ [p.cur], []⟩ else p
  ⟨q.fin, q.cur ++ [if isC c (Str.ofString "\"") then 1 else 0]⟩
def SS.run (p : SS) : List Nat → List Int → SS
  | c :: cs, k :: ks => (p.step c k).run cs ks
  | _, _ => p
def SS.all (p : SS) : List (List Int) := p.fin ++ [p.cur]
theorem SS.stepA {fin : List (List Int)} {cur : List Int} {c : Nat} {k : Int} (h : ((⟨#[c]⟩ : Str) == Str.ofString "\"") = true) (hk : k ≠ 0) : SS.step ⟨fin, cur⟩ c k = ⟨fin ++ [cur], [] ++ [1]⟩ := by
  have hk' : (k != 0) = true := bne_iff_ne.mpr hk
  simp only [SS.step, isC, h, hk', Bool.and_self, if_true]
theorem SS.stepB1 {fin : List (List Int)} {cur : List Int} {c : Nat} {k : Int} (h : ((⟨#[c]⟩ : Str) == Str.ofString "\"") = true) (hk : k = 0) : SS.step ⟨fin, cur⟩ c k = ⟨fin, cur ++ [1]⟩ := by
  subst hk
  simp [SS.step, isC, h]
theorem SS.stepB2 {fin : List (List Int)} {cur : List Int} {c : Nat} {k : Int} (h : ((⟨#[c]⟩ : Str) == Str.ofString "\"") = false) : SS.step ⟨fin, cur⟩ c k = ⟨fin, cur ++ [0]⟩ := by
  simp [SS.step, isC, h]
theorem SS.run_snoc (c : Nat) (k : Int) : ∀ (cs : List Nat) (ks : List Int) (p : SS), cs.length = ks.length → SS.run p (cs ++ [c]) (ks ++ [k]) = (SS.run p cs ks).step c k
  | [], [], p, _ => rfl
  | [], _ :: _, _, h => nomatch h
  | _ :: _, [], _, h => nomatch h
  | c' :: cs, k' :: ks, p, h => SS.run_snoc c k cs ks (p.step c' k') (by simpa using h)
theorem take_snoc {α : Type} {l : List α} {i : Nat} {v : α} (h : l[i]? = some v) : l.take (i + 1) = l.take i ++ [v] := by
  rw [List.take_add_one, h]; rfl
theorem SS.run_take : ∀ (cs : List Nat) (ks : List Int) (p : SS), SS.run p cs (ks.take cs.length) = SS.run p cs ks
  | [], [], _ => rfl
  | [], _ :: _, _ => rfl
  | _ :: _, [], _ => rfl
  | c :: cs, k :: ks, p => SS.run_take cs ks (p.step c k)
theorem SS.step_flat (p : SS) (c : Nat) (k : Int) : (p.step c k).all.flatten.length = p.all.flatten.length + 1 := by
  unfold SS.step SS.all
  split <;> simp <;> lia
theorem SS.step_bits (p : SS) (c : Nat) (k : Int) (h : ∀ y ∈ p.all.flatten, 0 ≤ y ∧ y < 2) : ∀ y ∈ (p.step c k).all.flatten, 0 ≤ y ∧ y < 2 := by
  have key : (p.step c k).all.flatten = p.all.flatten ++ [if isC c (Str.ofString "\"") then 1 else 0] := by
    unfold SS.step SS.all
    split <;> simp
  intro y hy
  rw [key] at hy
  rcases List.mem_append.mp hy with hy | hy
  · exact h y hy
  · rw [List.mem_singleton.mp hy]
    split <;> decide
theorem SS.run_flat : ∀ (cs : List Nat) (ks : List Int) (p : SS), (∀ y ∈ p.all.flatten, 0 ≤ y ∧ y < 2) → (SS.run p cs ks).all.flatten.length ≤ p.all.flatten.length + cs.length ∧ ∀ y ∈ (SS.run p cs ks).all.flatten, 0 ≤ y ∧ y < 2
  | [], _, p, h => ⟨Nat.le_add_right _ _, h⟩
  | _ :: _, [], p, h => ⟨Nat.le_add_right _ _, h⟩
  | c :: cs, k :: ks, p, h => by
    obtain ⟨h1, h2⟩ := SS.run_flat cs ks (p.step c k) (p.step_bits c k h)
    refine ⟨?_, h2⟩
    rw [SS.step_flat] at h1
    show (SS.run (p.step c k) cs ks).all.flatten.length ≤ p.all.flatten.length + (cs.length + 1)
    lia
/- what the second loop makes of them -/
def insOf (wd : Nat) (ks : List Int) : List Int := (digs wd ks.length ((digVal wd ks.reverse).fdiv (2 ^ wd + -1))).reverse.map fun y => y.fmod 2
def goodOf (wd : Nat) (ks : List Int) : Bool := (digVal wd ks.reverse).fmod (2 ^ wd + -1) == ks.sum
set_option pp.deepTerms.threshold 4 in
theorem spec_ins {w : World} {mg mb : Str → Option Value} {p : Program} {loose : List Str} {mean : ExcName → Option Value}
  {dp un : Nat} {gd : Option (List Code)} {cn : Str} {cs : Scope} {a : Addr} {ccd : Value} {cl : List (Str × Addr)} {outer : List Env} {A₀ : Around} {base h₀ : Heap} {L : Addr} {m : Str → Option Value} {s : Shared} {Q E : Value → Shared → Prop}
  {news own t : Led} {x : Str} {d : Addr} {vs : List Value} {ks : List Int} {wd : Nat} {tx tw : Tok}
  (cx : Cx w p loose mean mg mb A₀ base outer h₀ s.heap L m cs) (N : News h₀ L s.heap news) (htb : TB t) (hap : App news own t) (hown : Dis own t)
  (ha : x.cps.all (· < 128) = true) (hlen : x.cps.size ≤ 30) (hd : s.heap.IsList d vs.toArray) (hi : IntsAre vs ks) (hkl : ks.length = x.cps.size + 1) (hks : ∀ y ∈ ks, 0 ≤ y ∧ y < 2 ^ wd) (h6 : 6 ≤ wd) (h55 : wd ≤ 55)
  (hdp : dp + 90 < recursionLimit) (hun : un + 910 < cLine)
  (hret : ∀ r f fv ep t' h' tk', IntsAre fv (((SS.run ⟨[], []⟩ x.cps.toList ks).all.map (insOf wd)).flatten) → TB t' → Fr h₀ L h' m →
    News h₀ L h' ((r, { cls := .type "tuple", data := .seq #[.ref f, .bool ((SS.run ⟨[], []⟩ x.cps.toList ks).all.all (goodOf wd))] }) :: (f, W.listOf fv.toArray ep) :: (own ++ t')) → (∀ q ∈ own, q.1 ≠ r) → (∀ q ∈ own, q.1 ≠ f) → f ≠ r → Dis own t' → Q (.ref r) { s with heap := h', toks := tk' }) :
  wpAny (model PySem.Challenge.pw_pg0162_01 w) (ktrTop dp un gd cn cs L a ccd cl outer) (call (.ref 80) [.str x tx, .ref d, .int (wd : Int) tw]) Q E s := by
  k_with_none
  k_with "CJ" => (first | exact cj0 (by with_reducible assumption) | exact cj1 (by with_reducible assumption) | exact cj2 (by with_reducible assumption) | exact cj2z (by with_reducible assumption) | exact cj3 (by with_reducible assumption) | exact cj3z (by with_reducible assumption) | exact cj4 (by with_reducible assumption) | exact cj4z (by with_reducible assumption) | exact cj5 (by with_reducible assumption) | exact cj5z (by with_reducible assumption) | exact cj6 (by with_reducible assumption) | exact cj6z (by with_reducible assumption) | exact cj7 (by with_reducible assumption) | exact cj7z (by with_reducible assumption))
  k_with "NE" => ((refine neN ?_; (try dsimp only); first | walk_at "CJ" | exact Ne.symm (by walk_at "CJ") | exact Nat.ne_of_lt (by walk_at "CJ") | exact Nat.ne_of_gt (by walk_at "CJ") | exact neP (by walk_at "CJ") | exact Ne.symm (neP (by walk_at "CJ")) | exact neQ (by decide) | exact neR (by decide) | exact Ne.symm (neR (by decide)) | lia))
  k_with "MEM" => (k_dflt assumption)
  k_with "ALL" => ((refine' TB.off (by assumption) (by k_asm) (by k_mem) (by first | (((intro _ zh9; (repeat (first | exact zh9 | exact List.mem_append_right _ zh9 | refine' List.Mem.tail _ ?_)))); done) | fail) (by first | ((first | (intro _ zh9; cases zh9; done) | (intro _ zh9; simp_all)); done) | fail)))
  k_with "ALL" => (first | assumption | exact ofAllLt (by assumption) | exact ofAllLt (allLt_left (by assumption)) | (refine' forallApp ?_ ?_ <;> k_all))
  k_with "ROOM" => (first | lia | ((try simp only [depth_under_make, depth_under_kw, depth_in1, depth_deeper, depth_caller, recursionLimit, units_in1, units_deeper, Around.mark_units, units_caller, cLine] at *); (try dsimp only [ktrTop] at *); lia))
  k_with "TAILIN" => ((intro _ zh9; (try simp only [List.nil_append] at zh9); (repeat (first | exact zh9 | refine' List.Mem.tail _ ?_))))
  k_with "SUBL" => (((try simp only [List.cons_append, List.nil_append]); (repeat (refine List.forall_mem_cons.mpr ⟨by k_mem, ?_⟩)); first | exact List.forall_mem_nil _ | walk_at "TAILIN"))
  k_with "CX" => (exact ⟨by k_asm, by k_asm, by k_asm, by k_asm, by first | exact rfl | assumption, by assumption, by assumption⟩)
  k_with "APP" => ((repeat (first | exact App.nil | exact App.gen _ _ | apply App.cons)))
  k_with "DIS" => ((repeat (first | exact Dis.nil | assumption | (refine' Dis.cons ?_ ?_; focus (first | assumption | k_all)))))
  k_with "call ref" => ((k_here; k_dflt (refine' spec_d2i (by first | ((walk_at "CX"); done) | fail) (by k_asm) (by assumption) (by first | ((walk_at "APP"); done) | fail) (by first | ((walk_at "DIS"); done) | fail) (by is_list) (by l_ints) (by lia) (by first | ((walk_at "LEN"); done) | fail) (by assumption) (by first | ((walk_at "ROOM"); done) | fail) (by first | ((walk_at "ROOM"); done) | fail) ?_; intro _ _ _ _ _ _ zN9 _; (try simp only [List.cons_append, List.nil_append] at zN9); (try dsimp only); (try k_fold))))
  k_with "call ref" => ((k_here; k_dflt (refine' spec_i2d (by first | ((walk_at "CX"); done) | fail) (by k_asm) (by assumption) (by first | ((walk_at "APP"); done) | fail) (by first | ((walk_at "DIS"); done) | fail) (by lia) (by lia) (by assumption) _ (by assumption) (by lia) (by assumption) (by first | ((walk_at "ROOM"); done) | fail) (by first | ((walk_at "ROOM"); done) | fail) ?_; intro _ _ _ _ _ _ _ _ _ zN9 zhf9 _; (try simp only [List.cons_append, List.nil_append] at zN9); (replace zhf9 := allNe_of zhf9; try simp only [AllNe, and_true] at zhf9); (try dsimp only); (try k_fold))))
  k_with "call ref" => ((k_here; k_dflt (refine' spec_d2n (by first | ((walk_at "CX"); done) | fail) (by k_asm) (by assumption) (by assumption) (by assumption) (by first | ((walk_at "ROOM"); done) | fail) (by first | ((walk_at "ROOM"); done) | fail) ?_; intro _ _ _ _ _ _ _ zhf9; (replace zhf9 := allNe_of zhf9; simp only [AllNe, and_true] at zhf9); (try dsimp only); (try k_fold))))
  k_with "LEN" => (first | lia | ((try simp only [List.length_reverse, List.length_append, List.length_map, List.length_cons, List.length_nil, digs_length]); lia))
  k_with "call builtin:list.append" => ((k_here; k_dflt ((try dsimp only); refine' append_K (by k_asm) (by k_asm) (by k_upd) ?_ (by first | ((first | size_fits | (rw [sizeLine_eq]; simp only [List.size_toArray]; lia)); done) | fail)); intro _ _ zN9; (try simp only [List.push_toArray] at zN9); (try k_sweep)))
  k_with "OFF1" => ((repeat (first | exact List.forall_mem_nil _ | (refine' List.forall_mem_cons.mpr ⟨?_, ?_⟩; focus k_ne) | assumption | exact ofAllLt (by assumption) | k_all)))
  k_with "OFF" => ((refine' offSwap ?_; (repeat (first | exact List.forall_mem_nil _ | (refine' List.forall_mem_cons.mpr ⟨?_, ?_⟩; focus walk_at "OFF1")))))
  k_with "call builtin:list.reverse" => ((k_here; k_dflt ((try dsimp only); refine' kl_reverseU (by k_asm) (by k_asm) (by k_upd) (by exact rev_arr _) (by exact szl (by assumption)) ?_); intro _ _ _; (try k_sweep)))
  k_with "call ref" => ((k_here; k_dflt (refine' spec_dpos (by first | ((walk_at "CX"); done) | fail) (by k_asm) (by assumption) (by first | ((walk_at "APP"); done) | fail) (by first | ((walk_at "DIS"); done) | fail) (by first | ((first | assumption | lia); done) | fail) (by first | ((first | assumption | lia); done) | fail) (by assumption) (by assumption) (by first | ((walk_at "ROOM"); done) | fail) (by first | ((walk_at "ROOM"); done) | fail) ?_; intro _ _ _ _ _ _ _ _ zN9 zhf9 _; (try simp only [List.cons_append, List.nil_append] at zN9); (replace zhf9 := allNe_of zhf9; try simp only [AllNe, and_true] at zhf9); (try dsimp only); (try k_fold))))
  k_with "call ref" => ((k_here; k_dflt (refine' spec_idm (by first | ((walk_at "CX"); done) | fail) (by k_asm) (by assumption) (by first | ((walk_at "APP"); done) | fail) (by first | ((walk_at "DIS"); done) | fail) (by first | ((first | assumption | lia); done) | fail) (by first | ((first | assumption | lia); done) | fail) (by assumption) (by assumption) (by first | ((walk_at "ROOM"); done) | fail) (by first | ((walk_at "ROOM"); done) | fail) ?_; intro _ _ _ _ _ _ _ _ zN9 zhf9 _; (try simp only [List.cons_append, List.nil_append] at zN9); (replace zhf9 := allNe_of zhf9; try simp only [AllNe, and_true] at zhf9); (try dsimp only); (try k_fold))))
  k_with "call type:list" => ((k_here; k_dflt (refine' list_revK (by exact rfl) (by k_asm) (by k_asm) (by first | ((first | k_all | fail); done) | fail) (by is_list) (by l_ints) (by first | ((walk_at "LEN"); done) | fail) ?_; intro _ _ _ _ _ _ _ _ _; (try k_sweep))))
  k_with "call builtin:len" => ((k_here; k_dflt (refine' len_ints (by is_list) (by l_ints) (by first | ((first | exact digs_length _ _ _ | exact rfl); done) | fail) (by lia) ?_; (try dsimp only))))
  k_with "SUMLEN" => (((try simp only [digs_length, List.length_append, List.length_reverse, List.length_map]); (simp only [sizeLine_eq]); first | lia | (rename_i e2' e3'; simp_all; lia)))
  k_with "binaryOp Add ref ref" => ((k_here; (with_reducible show wpAny _ _ (binaryOp _ (Value.ref _) (Value.ref _)) _ _ _); k_dflt ((try dsimp only); refine' kmk_add_ints (by k_asm) (by k_asm) (by kmk_list) (by kmk_list) (by l_ints) (by l_ints) ?_ (by first | ((first | walk_at "SUMLEN" | fail); done) | fail)); intro _ _ _ _ _ zl1 _; (try k_lt zl1); (try k_sweep)))
  k_with "TAILIN1" => ((repeat (first | assumption | refine' List.Mem.tail _ ?_)))
  k_with "call ref" => ((k_here; k_dflt (refine' spec_div (by first | ((walk_at "CX"); done) | fail) (by k_asm) (by assumption) (by first | ((walk_at "APP"); done) | fail) (by first | ((walk_at "DIS"); done) | fail) (by first | ((first | is_list | exact News.isList (by k_asm) (by walk_at "MEMU")); done) | fail) (by first | ((first | assumption | l_ints); done) | fail) (by assumption) (by first | ((walk_at "LEN"); done) | fail) (by assumption) (by assumption) (by first | ((first | exact .inl rfl | exact .inr rfl); done) | fail) (by first | ((walk_at "ROOM"); done) | fail) (by first | ((walk_at "ROOM"); done) | fail) ?_; intro _ _ _ _ _ _ _ _ _ _ _ zN9 zhr9 zhf9 _ _; (try simp only [List.cons_append, List.nil_append] at zN9); (replace zhr9 := allNe_of zhr9; try simp only [AllNe, and_true] at zhr9); (replace zhf9 := allNe_of zhf9; try simp only [AllNe, and_true] at zhf9); (try dsimp only); (try k_fold))))
  k_with "MEMU" => ((repeat (first | exact List.mem_append_left _ (by assumption) | refine' List.Mem.tail _ ?_)))
  k_with "exec For Tuple Call cons nil" => ((k_here; (with_unfolding_all refine' For_turns (by with_reducible assumption) ?_ (fun _ => rfl) PassesOwn.never)))
  k_with "exec For Name Name cons nil" => ((k_here; (with_unfolding_all refine' For_turns (by with_reducible assumption) ?_ (fun _ => rfl) PassesOwn.never)))
  k_with "call type:zip" => ((refine' stopHere ?_))
  k_with "subscriptTail" => ((k_here; k_dflt (refine' kim_back (l := _ ++ [_]) (by k_asm) (by k_mem) (by exact rfl) (by exact rfl) (by decide) (by first | ((first | (simp only [List.length_append, List.length_singleton]; lia) | (simp; lia)); done) | fail) (by decide) (by exact last_get _ _) ?_)))
  k_with "eval ListComp" => ((k_here; lcg_look; lcg_calm; k_dflt (refine LCg.ListComp_U (F₀ := by k_asm) (by with_unfolding_all rfl) (by decide) (by rfl) (by decide) (by rfl) ?_)))
  k_with "call builtin:sum" => ((k_here; k_dflt (refine' sumK (by exact rfl) (by k_asm) (by k_asm) (by first | ((exact News.isList (by k_asm) (by walk_at "MEMU")); done) | fail) (by assumption) ?_; intro _ _ _ _ _; (try dsimp only); (try k_sweep))))
  k_with "call builtin:list.extend" => ((k_here; k_dflt (refine' extend_ints (by k_asm) (by k_asm) (by k_mem) (by k_updF) (by lia) (by lia) ?_; intro _ _ _ zN9; (try dsimp only at zN9); (try k_sweep))))
  w_on
  w_top on
  obtain ⟨B, F, X, T, hk, CA, CB⟩ := cx
  have hdp' : dp + 90 < 1000 := hdp
  have hun' : un + 910 < 9900 := hun
  have e9 := hap.eq
  subst e9
  have hgb : GotBack TB h₀ L m own s (fun v new => ∃ r f fv ep, IntsAre fv (((SS.run ⟨[], []⟩ x.cps.toList ks).all.map (insOf wd)).flatten) ∧ f ≠ r ∧ v = .ref r ∧ new = [(r, { cls := .type "tuple", data := .seq #[.ref f, .bool ((SS.run ⟨[], []⟩ x.cps.toList ks).all.all (goodOf wd))] }), (f, W.listOf fv.toArray ep)]) Q := by
    rintro _ _ t' h' tk' htb' ⟨r, f, fv, ep, hfv, hne, rfl, rfl⟩ F' N' dn dt
    exact hret r f fv ep t' h' tk' hfv htb' F' N' (fun q hq => dn q hq _ (.head _)) (fun q hq => dn q hq _ (.tail _ (.head _))) hne dt
  clear hret
  first | k_dflt ((
        refine' enterP ?k1 ?k2 ?k3 ?k4 ?k5 ?k6 ?kA ?kF ?kK ?k7 ?kd ?k8 ?k9 ?kb ?kB ?kr ?_ ?kc ?c2 ?c3 ?c4
        (case kr => assumption); (case kA => exact rfl); (case kF => exact rfl); (case kK => assumption)
        (case k1 => k_asm); (case k2 => k_asm); (case k3 => k_asm); (case k4 => k_asm); (case k5 => k_asm); (case k6 => assumption)
        (case k7 => k_is); (case kd => exact rfl); (case k8 => k_is); (case k9 => walk_at "ROOM"); (case kb => exact BindsTo.of_eq rfl); (case kB => exact locs rfl); (case kc => decide); (case c2 => exact rfl); (case c3 => exact rfl); (case c4 => exact rfl))) | fail
  intro g' L' h' hkg F' N' B' X' T' l1
  refine holdQ ?_
  intro QR hQR
  have hd' := listIn htb (newsSub N fun q hq => List.mem_append_right _ hq) hkg hd
  clear hkg hgb N F B X T hown hap hd
  (try dsimp only)
  (try k_fold)
  k_steps
  rename_i lC z1 ltC lS z2 ltS z3 F0 N0
  refine' Stop.go ?_
  have hvl : vs.length = ks.length := hi.length
  have hdg : g'.IsList d vs.toArray := hd'
  obtain ⟨od, hod, hodc, hodr⟩ := hdg
  k_dflt refine' zipG_turns (x := .txt x tx) (r := [.lst d vs.toArray]) (keep := []) ?hh rfl ?hct ?hcn ?hok ?F ?N (fun _ h => nomatch h) ?ok ?small ?hn ?hfp (fun m₀ i m news => ∃ (P : SS) (rv : List Value) (es : Nat) (C : Addr) (cv : List Value) (ec : Nat) (fl : Led),
    P = SS.run ⟨[], []⟩ (x.cps.toList.take i) (ks.take i) ∧ P.fin.length ≤ i ∧ P.cur.length ≤ i ∧ Rfs fl rv P.fin ∧ IntsAre cv P.cur ∧ Held m₀ [Str.ofString "sign", Str.ofString "shield"] [] m ∧
    (∀ p ∈ fl, p.1 ≠ lS) ∧ (∀ p ∈ fl, p.1 ≠ C) ∧ @Ne Nat C lS ∧ Dis fl t ∧ (∀ p ∈ fl, p.2.cls = .type "list") ∧ news = (lS, W.listOf (rv ++ [Value.ref C]).toArray es) :: (C, W.listOf cv.toArray ec) :: (fl ++ t)) ?start ?step ?done
  case hh => exact rfl
  case F => k_asm
  case N => k_asm
  case hct => kernel_rfl
  case hcn => kernel_rfl
  case hok => intro obj; exact PySem.F.args_object_init_3 obj _ _
  case ok =>
    intro y hy
    rcases List.mem_cons.mp hy with rfl | hy
    · exact ha
    · rw [List.mem_singleton.mp hy]; k_dflt is_list
  case small => simp
  case hn =>
    intro y hy
    rcases List.mem_cons.mp hy with rfl | hy
    · exact Nat.le_refl _
    · rw [List.mem_singleton.mp hy]; show x.cps.size ≤ vs.toArray.size; simp; lia
  case hfp =>
    intro y hy b hb
    rcases List.mem_cons.mp hy with rfl | hy
    · exact nomatch hb
    · rw [List.mem_singleton.mp hy] at hb
      rw [List.mem_singleton.mp hb]
      exact .inr ⟨od, hod⟩
  case start =>
    refine' ⟨⟨[], []⟩, [], _, lC, [], _, [], rfl, Nat.le_refl _, Nat.le_refl _, .nil, .nil, ⟨(fun _ h => nomatch h), (fun _ _ _ => rfl)⟩, (fun _ h => nomatch h), (fun _ h => nomatch h), ?ne, (fun _ h => nomatch h), (fun _ h => nomatch h), rfl⟩
    case ne => first | k_ne | fail
  case step =>
    rintro I lI i m9 news9 T9 vals hi9 hdr ⟨P, rv, es, C, cv, ec, fl, hP, hp1, hp2, hR, hcv, hH, o1, o2, o3, hdis, hcl, rfl⟩ H tk hT F9
    cases hdr with
    | cons hc hdr =>
    cases hdr with
    | cons hk9 hdr =>
    cases hdr
    obtain ⟨c, u, hc, rfl⟩ := hc
    obtain ⟨k, tk9, hkk, rfl⟩ := intsGetK hi (by simpa [Src.P] using hk9)
    have F9 := hH.fr F9
    rw [zws2]
    refine AllObj.cons fun z1 hz1 => AllObj.cons fun z2 hz2 => AllObj.cons fun z3 hz3 => AllObj.cons fun z4 hz4 => AllObj.cons fun z5 hz5 => AllObj.nil ?_
    intro N9
    simp only [List.cons_append, List.nil_append] at N9
    refine holdT ?_
    intro QT hQT
    have q1 := clsOff (ps := (lS, W.listOf (rv ++ [Value.ref C]).toArray es) :: (C, W.listOf cv.toArray ec) :: fl) (qs := [(I + 4, z1), (I + 2, z2), (I + 3, z3), (I, z4), (I + 1, z5)]) N9 (fun p hp => .tail _ (.tail _ (.tail _ (.tail _ (.tail _ (List.mem_append_left t hp)))))) (fun p hp => List.mem_append_left ((lS, W.listOf (rv ++ [Value.ref C]).toArray es) :: (C, W.listOf cv.toArray ec) :: (fl ++ t)) hp)
      (by
        intro p hp
        rcases List.mem_cons.mp hp with rfl | hp
        · rfl
        rcases List.mem_cons.mp hp with rfl | hp
        · rfl
        exact hcl p hp)
      (by
        intro q hq
        simp only [List.mem_cons, List.mem_nil_iff, or_false] at hq
        rcases hq with rfl | rfl | rfl | rfl | rfl
        · rw [hz1]; exact (by decide : Value.type "zip" ≠ Value.type "list")
        · rw [hz2]; exact (by decide : Value.type "tuple" ≠ Value.type "list")
        · rw [hz3]; exact (by decide : Value.type "tuple" ≠ Value.type "list")
        · rw [hz4]; exact (by decide : Value.type "str_ascii_iterator" ≠ Value.type "list")
        · rw [hz5]; exact (by decide : Value.type "list_iterator" ≠ Value.type "list"))
    have hi9 : i < x.cps.size := hi9
    have nS := q1 (lS, _) (.head _)
    have nC := q1 (C, _) (.tail _ (.head _))
    have nS1 : @Ne Nat lS (I + 4) ∧ @Ne Nat lS (I + 2) ∧ @Ne Nat lS (I + 3) ∧ @Ne Nat lS I ∧ @Ne Nat lS (I + 1) := ⟨nS _ (.head _), nS _ (.tail _ (.head _)), nS _ (.tail _ (.tail _ (.head _))), nS _ (.tail _ (.tail _ (.tail _ (.head _)))), nS _ (.tail _ (.tail _ (.tail _ (.tail _ (.head _)))))⟩
    have nC1 : @Ne Nat C (I + 4) ∧ @Ne Nat C (I + 2) ∧ @Ne Nat C (I + 3) ∧ @Ne Nat C I ∧ @Ne Nat C (I + 1) := ⟨nC _ (.head _), nC _ (.tail _ (.head _)), nC _ (.tail _ (.tail _ (.head _))), nC _ (.tail _ (.tail _ (.tail _ (.head _)))), nC _ (.tail _ (.tail _ (.tail _ (.tail _ (.head _)))))⟩
    have nf0 : ∀ p ∈ fl, p.1 ≠ (I + 4) := fun p hp => q1 p (.tail _ (.tail _ hp)) _ (.head _)
    have nf1 : ∀ p ∈ fl, p.1 ≠ (I + 2) := fun p hp => q1 p (.tail _ (.tail _ hp)) _ (.tail _ (.head _))
    have nf2 : ∀ p ∈ fl, p.1 ≠ (I + 3) := fun p hp => q1 p (.tail _ (.tail _ hp)) _ (.tail _ (.tail _ (.head _)))
    have nf3 : ∀ p ∈ fl, p.1 ≠ I := fun p hp => q1 p (.tail _ (.tail _ hp)) _ (.tail _ (.tail _ (.tail _ (.head _))))
    have nf4 : ∀ p ∈ fl, p.1 ≠ (I + 1) := fun p hp => q1 p (.tail _ (.tail _ hp)) _ (.tail _ (.tail _ (.tail _ (.tail _ (.head _)))))
    have hlt0 : AllLt I t := allLt_of fun q hq => lI q (by first | walk_at "TAILIN1" | fail)
    have hlt1 : AllLt (I + 1) t := allLt_le (Nat.le_add_right _ _) hlt0
    have hlt2 : AllLt (I + 2) t := allLt_le (Nat.le_add_right _ _) hlt0
    have hlt3 : AllLt (I + 3) t := allLt_le (Nat.le_add_right _ _) hlt0
    have hlt4 : AllLt (I + 4) t := allLt_le (Nat.le_add_right _ _) hlt0
    have hrl : rv.length ≤ 64 := by rw [hR.length]; lia
    have hcl9 : cv.length ≤ 64 := by rw [hcv.length]; lia
    clear q1 nS nC
    have hsn : SS.run ⟨[], []⟩ (x.cps.toList.take (i + 1)) (ks.take (i + 1)) = SS.step P c k := by
      rw [take_snoc (v := c) (by simpa using hc), take_snoc hkk, SS.run_snoc _ _ _ _ _ (by simp only [List.length_take, Array.length_toList]; lia), ← hP]
    obtain ⟨fin, cur⟩ := P
    have hp1 : fin.length ≤ i := hp1
    have hp2 : cur.length ≤ i := hp2
    have hR : Rfs fl rv fin := hR
    have hcv : IntsAre cv cur := hcv
    (try dsimp only)
    (try k_fold)
    k_steps
    · rename_i C9 w1 w2 w3 w4 w5 w6
      have hC9 : ∀ p ∈ fl, p.1 ≠ C9 := ofAllLt (allLt_left w2.2.2.2.2.2.2.2)
      refine' hQT _ _ ?_
      refine' TurnP.next ?F ?N ((lS, _) :: (C9, _) :: (((C, W.listOf cv.toArray ec) :: fl) ++ t)) ?hs ?off ?r
      ((
            (case F => k_asm); (case N => k_asm); (case hs => first | walk_at "SUBL" | fail); (case off => first | walk_at "OFF" | fail)
            (case r =>
              refine' ⟨(fun _ h => nomatch h), ⟨_, _⟩, _, _, _, _, _, _, ?eq, ?b1, ?b2, ?hR, ?hcv, ⟨(fun _ h => nomatch h), ?h2⟩, ?o1, ?o2, ?o3, ?hdis, ?hcl, rfl⟩
              (case hR => first | exact hR | exact (hR.more (fun p hp => .tail _ hp)).snoc (.head _) hcv)
              (case hcv => first | exact hcv.append (.cons _ _ .nil) | exact IntsAre.append .nil (.cons _ _ .nil))
              (case eq => (rw [hsn]; first | exact (SS.stepB2 (by assumption)).symm | exact (SS.stepB1 (by assumption) (by assumption)).symm | exact (SS.stepA (by assumption) (by assumption)).symm))
              (case b1 => first | exact Nat.le_succ_of_le hp1 | (rw [List.length_append]; exact Nat.succ_le_succ hp1))
              (case b2 => (rw [List.length_append]; first | exact Nat.succ_le_succ hp2 | exact Nat.succ_le_succ (Nat.zero_le _)))
              (case h2 => intro z g1 g2; have a1 := notIn g2 _ (.head _); have a2 := notIn g2 _ (.tail _ (.head _)); simp only [kstB, a1, a2, g2, if_false, Bool.false_eq_true])
              (case o1 => first | k_all | fail)
              (case o2 => first | k_all | fail)
              (case o3 => first | k_ne | fail)
              (case hdis => first | exact hdis | (refine' Dis.cons ?_ hdis; k_all))
              (case hcl => first | exact hcl | exact List.forall_mem_cons.mpr ⟨rfl, hcl⟩))))
    · refine' hQT _ _ ?_
      refine' TurnP.next ?F ?N ((lS, _) :: (C, _) :: (fl ++ t)) ?hs ?off ?r
      ((
            (case F => k_asm); (case N => k_asm); (case hs => first | walk_at "SUBL" | fail); (case off => first | walk_at "OFF" | fail)
            (case r =>
              refine' ⟨(fun _ h => nomatch h), ⟨_, _⟩, _, _, _, _, _, _, ?eq, ?b1, ?b2, ?hR, ?hcv, ⟨(fun _ h => nomatch h), ?h2⟩, ?o1, ?o2, ?o3, ?hdis, ?hcl, rfl⟩
              (case hR => first | exact hR | exact (hR.more (fun p hp => .tail _ hp)).snoc (.head _) hcv)
              (case hcv => first | exact hcv.append (.cons _ _ .nil) | exact IntsAre.append .nil (.cons _ _ .nil))
              (case eq => (rw [hsn]; first | exact (SS.stepB2 (by assumption)).symm | exact (SS.stepB1 (by assumption) (by assumption)).symm | exact (SS.stepA (by assumption) (by assumption)).symm))
              (case b1 => first | exact Nat.le_succ_of_le hp1 | (rw [List.length_append]; exact Nat.succ_le_succ hp1))
              (case b2 => (rw [List.length_append]; first | exact Nat.succ_le_succ hp2 | exact Nat.succ_le_succ (Nat.zero_le _)))
              (case h2 => intro z g1 g2; have a1 := notIn g2 _ (.head _); have a2 := notIn g2 _ (.tail _ (.head _)); simp only [kstB, a1, a2, g2, if_false, Bool.false_eq_true])
              (case o1 => first | k_all | fail)
              (case o2 => first | k_all | fail)
              (case o3 => first | k_ne | fail)
              (case hdis => first | exact hdis | (refine' Dis.cons ?_ hdis; k_all))
              (case hcl => first | exact hcl | exact List.forall_mem_cons.mpr ⟨rfl, hcl⟩))))
    · refine' hQT _ _ ?_
      refine' TurnP.next ?F ?N ((lS, _) :: (C, _) :: (fl ++ t)) ?hs ?off ?r
      ((
            (case F => k_asm); (case N => k_asm); (case hs => first | walk_at "SUBL" | fail); (case off => first | walk_at "OFF" | fail)
            (case r =>
              refine' ⟨(fun _ h => nomatch h), ⟨_, _⟩, _, _, _, _, _, _, ?eq, ?b1, ?b2, ?hR, ?hcv, ⟨(fun _ h => nomatch h), ?h2⟩, ?o1, ?o2, ?o3, ?hdis, ?hcl, rfl⟩
              (case hR => first | exact hR | exact (hR.more (fun p hp => .tail _ hp)).snoc (.head _) hcv)
              (case hcv => first | exact hcv.append (.cons _ _ .nil) | exact IntsAre.append .nil (.cons _ _ .nil))
              (case eq => (rw [hsn]; first | exact (SS.stepB2 (by assumption)).symm | exact (SS.stepB1 (by assumption) (by assumption)).symm | exact (SS.stepA (by assumption) (by assumption)).symm))
              (case b1 => first | exact Nat.le_succ_of_le hp1 | (rw [List.length_append]; exact Nat.succ_le_succ hp1))
              (case b2 => (rw [List.length_append]; first | exact Nat.succ_le_succ hp2 | exact Nat.succ_le_succ (Nat.zero_le _)))
              (case h2 => intro z g1 g2; have a1 := notIn g2 _ (.head _); have a2 := notIn g2 _ (.tail _ (.head _)); simp only [kstB, a1, a2, g2, if_false, Bool.false_eq_true])
              (case o1 => first | k_all | fail)
              (case o2 => first | k_all | fail)
              (case o3 => first | k_ne | fail)
              (case hdis => first | exact hdis | (refine' Dis.cons ?_ hdis; k_all))
              (case hcl => first | exact hcl | exact List.forall_mem_cons.mpr ⟨rfl, hcl⟩))))
  case done =>
    rintro m9 news9 ⟨P, rv, es, C, cv, ec, fl, hP, hp1, hp2, hR, hcv, hH, o1, o2, o3, hdis, hcl, rfl⟩ H tk F9 N9
    have F9 := hH.fr F9
    have hfull : SS.run ⟨[], []⟩ x.cps.toList ks = P := by
      rw [hP, ← SS.run_take x.cps.toList ks, show (Src.txt x tx).n = x.cps.toList.length by simp [Src.n], List.take_length]
    rw [hfull] at hQR
    obtain ⟨hfl1, hfl2⟩ := SS.run_flat x.cps.toList ks ⟨[], []⟩ (fun y hy => by simp [SS.all] at hy)
    rw [hfull] at hfl1 hfl2
    clear hP
    have hRA : Rfs ((C, W.listOf cv.toArray ec) :: fl) (rv ++ [Value.ref C]) P.all := (hR.more fun p hp => .tail _ hp).snoc (.head _) hcv
    (try dsimp only)
    (try k_fold)
    k_steps
    rename_i lI y1 ltI DT y2 ltD y3 Fx Nx y4 y5 F0 N0
    clear Fx Nx
    have hIl : ∀ p ∈ (C, W.listOf cv.toArray ec) :: fl, p.1 ≠ lI := List.forall_mem_cons.mpr ⟨by first | k_ne | fail, ofAllLt (allLt_left ltI.2.2)⟩
    have hSl : ∀ p ∈ (C, W.listOf cv.toArray ec) :: fl, p.1 ≠ lS := List.forall_mem_cons.mpr ⟨o3, o1⟩
    have hDl : Dis ((C, W.listOf cv.toArray ec) :: fl) t := Dis.cons (by first | k_all | fail) hdis
    have hSI : @LT.lt Nat _ lS lI := ltI.1
    have N1 : News g' L' _ ((lI, W.listOf ([] : List Value).toArray 0) :: (lS, W.listOf (rv ++ [Value.ref C]).toArray es) :: ((C, W.listOf cv.toArray ec) :: fl ++ t)) := newsSub N0 (by first | walk_at "SUBL" | fail)
    clear N0
    generalize hU : (C, W.listOf cv.toArray ec) :: fl = U at N1 hIl hSl hDl hRA
    k_dflt refine' iter_listTurns (vs := rv ++ [Value.ref C]) ?hh ?F ?N ?hm ?hc ?hd ?_
    case hh => exact rfl
    case F => k_asm
    case N => k_asm
    case hm => first | k_mem | fail
    case hc => exact rfl
    case hd => exact rfl
    intro I lI9
    have hltI : @LT.lt Nat _ lI I := lI9 (lI, _) (.head _)
    have hltS : @LT.lt Nat _ lS I := lI9 (lS, _) (.tail _ (.head _))
    have hltU : AllLt I U := allLt_of fun q hq => lI9 q (.tail _ (.tail _ (List.mem_append_left _ hq)))
    have hltT : ∀ p ∈ t, p.1 ≠ I := fun q hq => Nat.ne_of_lt (lI9 q (.tail _ (.tail _ (List.mem_append_right _ hq))))
    clear lI9
    refine rest_indM (fun m₀ xs m news => ∃ (rs : List Value) (kr : List (List Int)) (iv : List Value) (ins : List Int) (ei : Nat) (gd : Bool) (t2 : Led), xs = rs.map .val ∧ Rfs U rs kr ∧ (∀ y ∈ kr.flatten, 0 ≤ y ∧ y < 2) ∧ ins.length + kr.flatten.length ≤ 30 ∧ IntsAre iv ins ∧
      ins ++ (kr.map (insOf wd)).flatten = (P.all.map (insOf wd)).flatten ∧ (gd && kr.all (goodOf wd)) = P.all.all (goodOf wd) ∧ Held m₀ [Str.ofString "marks", Str.ofString "ahead", Str.ofString "rest"] [(Str.ofString "good", .bool gd)] m ∧ TB t2 ∧ Dis U t2 ∧ (∀ p ∈ t2, p.1 ≠ I) ∧
      news = (lI, W.listOf iv.toArray ei) :: (lS, W.listOf (rv ++ [Value.ref C]).toArray es) :: (U ++ t2)) ?step ?done ?start
    case start =>
      refine' ⟨_, P.all, [], [], 0, true, t, rfl, hRA, hfl2, ?_, .nil, rfl, rfl, ⟨?h1, fun z g1 g2 => rfl⟩, htb, hDl, hltT, rfl⟩
      case h1 => exact fun p hp => by rw [List.mem_singleton.mp hp]; exact rfl
      rw [List.length_nil, Nat.zero_add]
      refine Nat.le_trans hfl1 ?_
      simp [SS.all]
      lia
    case step =>
      rintro it0 rr m9 news9 ⟨rs, kr, iv, ins, ei, gd, t2, hxs, hrs, hbits, hsz, hiv, hins, hgood, hH, htb2, hD2, hI2, rfl⟩ v H tk hv F9
      cases hrs with
      | nil => simp at hxs
      | @cons a9 vs9 e9 ks9 rs kr hmU hiU hrs =>
        simp only [List.map_cons, List.cons.injEq] at hxs
        obtain ⟨rfl, rfl⟩ := hxs
        have hv' : v = .ref a9 := hv
        subst hv'
        have F9 := hH.fr F9
        rw [List.flatten_cons] at hbits hsz
        rw [List.length_append] at hsz
        have hm9 : ∀ y ∈ ks9, 0 ≤ y ∧ y < 2 ^ wd := by
          intro y hy
          have h1 := hbits y (List.mem_append_left _ hy)
          have h2 : (2 : Int) ^ 1 ≤ 2 ^ wd := pow_mono2 (by lia)
          exact ⟨h1.1, by lia⟩
        have hl9 : ks9.length ≤ 40 := by lia
        refine AllObj.cons (w := (_, _)) fun it hit => AllObj.nil ?_
        intro N9
        simp only [List.cons_append, List.nil_append] at N9
        refine holdT ?_
        intro QT hQT
        clear htb hDl hltT
        (try dsimp only)
        (try k_fold)
        cases gd
        ·
          k_steps
          ((
                (rename IntsAre _ (List.reverse (digs _ _ _)) => hfin)
                (have hfl9 : ∀ {ys : List Value} {zs : List Int}, IntsAre ys zs → ys.length = zs.length := fun h => h.length)
                (have hfl8 := hfin.length)
                (rw [List.length_reverse, digs_length] at hfl8)
                (k_dflt refine LCg.CompSrc.ledger (by rfl) (by k_asm) (by k_asm) (by k_mem) (by rw [sizeLine_eq]; simp only [List.size_toArray]; lia) ?_)
                intro g9
                (refine comp_map (fun i y => ∃ k t, (insOf wd ks9)[i]? = some k ∧ y = Value.int k t) ?hS ?fin ?step _ 0 [] (Nat.zero_add _) rfl (fun j y h => by simp at h))
                (case hS => exact .inr ⟨_, by k_mem, rfl, _, rfl⟩)
                (case step =>
                  intro i v I9 oI C9 oC D9 m₂ h8 tk8 E8 ys hP9 hC hx F8 N8 off ne
                  obtain ⟨k, t9, hz, rfl⟩ := intsGetK hfin (by simpa using hP9)
                  (try simp only [LCg.Off3, and_true] at off)
                  (try dsimp only)
                  k_steps
                  all_goals first | assumption | exact rfl | (unfold insOf; rw [List.getElem?_map, hz]; exact rfl))
                (case fin =>
                  intro ys hl hr
                  have hys : IntsAre ys (insOf wd ks9) := intsOf (by rw [hl]; simp only [List.size_toArray, insOf, List.length_map, List.length_reverse, digs_length]; lia) hr
                  have hysl := hys.length
                  have hinl : (insOf wd ks9).length = ks9.length := by simp only [insOf, List.length_map, List.length_reverse, digs_length]
                  have hivl := hiv.length
                  unfold LCg.FinE
                  intro D8 h8 tk8 F8 N8 o8
                  (try simp only [LCg.Off1, and_true] at o8)
                  (try dsimp only)
                  k_steps
                  (rename TB _ => htbZ)
                  (rename Dis _ _ => hdZ)
                  refine' hQT _ _ ?_
                  refine' TurnP.next ?F ?N ((lI, _) :: (lS, _) :: (U ++ _)) ?hs ?off ?r
                  (case F => k_asm)
                  (case N => k_asm)
                  (case hs => first | walk_at "SUBL" | fail)
                  (case off =>
                    refine' offSwap (List.forall_mem_cons.mpr ⟨?_, List.forall_mem_nil _⟩)
                    refine' List.forall_mem_cons.mpr ⟨Nat.ne_of_lt hltI, List.forall_mem_cons.mpr ⟨Nat.ne_of_lt hltS, forallApp (ofAllLt hltU) (hdZ _ (.head _))⟩⟩)
                  (case r =>
                    refine' ⟨⟨.tail _ (.head _), trivial⟩, rs, kr, iv ++ ys, ins ++ insOf wd ks9, _, _, _, rfl, hrs, ?b, ?sz, hiv.append hys, ?eq, ?good, ⟨?h1, ?h2⟩, htbZ, ?dz, hdZ _ (.head _), rfl⟩
                    (case h1 => exact fun p hp => by rw [List.mem_singleton.mp hp]; exact rfl)
                    (case b => exact fun y hy => hbits y (List.mem_append_right _ hy))
                    (case sz => (rw [List.length_append, hinl]; lia))
                    (case eq => (rw [← hins]; simp only [List.map_cons, List.flatten_cons, List.append_assoc]))
                    (case good => (rw [← hgood]; first | exact rfl | (simp only [List.all_cons, goodOf, Bool.true_and]; exact rfl)))
                    (case dz => exact fun q hq => hdZ q (.tail _ (.tail _ (.tail _ hq))))
                    (case h2 => intro z g1 g2; have a1 := g1 _ (.head _); have a2 := notIn g2 _ (.head _); have a3 := notIn g2 _ (.tail _ (.head _)); have a4 := notIn g2 _ (.tail _ (.tail _ (.head _))); simp only [kstB, a1, a2, a3, a4, g2, if_false, Bool.false_eq_true])))))
        · k_steps
          ((
                (rename IntsAre _ (List.reverse (digs _ _ _)) => hfin)
                (have hfl9 : ∀ {ys : List Value} {zs : List Int}, IntsAre ys zs → ys.length = zs.length := fun h => h.length)
                (have hfl8 := hfin.length)
                (rw [List.length_reverse, digs_length] at hfl8)
                (k_dflt refine LCg.CompSrc.ledger (by rfl) (by k_asm) (by k_asm) (by k_mem) (by rw [sizeLine_eq]; simp only [List.size_toArray]; lia) ?_)
                intro g9
                (refine comp_map (fun i y => ∃ k t, (insOf wd ks9)[i]? = some k ∧ y = Value.int k t) ?hS ?fin ?step _ 0 [] (Nat.zero_add _) rfl (fun j y h => by simp at h))
                (case hS => exact .inr ⟨_, by k_mem, rfl, _, rfl⟩)
                (case step =>
                  intro i v I9 oI C9 oC D9 m₂ h8 tk8 E8 ys hP9 hC hx F8 N8 off ne
                  obtain ⟨k, t9, hz, rfl⟩ := intsGetK hfin (by simpa using hP9)
                  (try simp only [LCg.Off3, and_true] at off)
                  (try dsimp only)
                  k_steps
                  all_goals first | assumption | exact rfl | (unfold insOf; rw [List.getElem?_map, hz]; exact rfl))
                (case fin =>
                  intro ys hl hr
                  have hys : IntsAre ys (insOf wd ks9) := intsOf (by rw [hl]; simp only [List.size_toArray, insOf, List.length_map, List.length_reverse, digs_length]; lia) hr
                  have hysl := hys.length
                  have hinl : (insOf wd ks9).length = ks9.length := by simp only [insOf, List.length_map, List.length_reverse, digs_length]
                  have hivl := hiv.length
                  unfold LCg.FinE
                  intro D8 h8 tk8 F8 N8 o8
                  (try simp only [LCg.Off1, and_true] at o8)
                  (try dsimp only)
                  k_steps
                  (rename TB _ => htbZ)
                  (rename Dis _ _ => hdZ)
                  refine' hQT _ _ ?_
                  refine' TurnP.next ?F ?N ((lI, _) :: (lS, _) :: (U ++ _)) ?hs ?off ?r
                  (case F => k_asm)
                  (case N => k_asm)
                  (case hs => first | walk_at "SUBL" | fail)
                  (case off =>
                    refine' offSwap (List.forall_mem_cons.mpr ⟨?_, List.forall_mem_nil _⟩)
                    refine' List.forall_mem_cons.mpr ⟨Nat.ne_of_lt hltI, List.forall_mem_cons.mpr ⟨Nat.ne_of_lt hltS, forallApp (ofAllLt hltU) (hdZ _ (.head _))⟩⟩)
                  (case r =>
                    refine' ⟨⟨.tail _ (.head _), trivial⟩, rs, kr, iv ++ ys, ins ++ insOf wd ks9, _, _, _, rfl, hrs, ?b, ?sz, hiv.append hys, ?eq, ?good, ⟨?h1, ?h2⟩, htbZ, ?dz, hdZ _ (.head _), rfl⟩
                    (case h1 => exact fun p hp => by rw [List.mem_singleton.mp hp]; exact rfl)
                    (case b => exact fun y hy => hbits y (List.mem_append_right _ hy))
                    (case sz => (rw [List.length_append, hinl]; lia))
                    (case eq => (rw [← hins]; simp only [List.map_cons, List.flatten_cons, List.append_assoc]))
                    (case good => (rw [← hgood]; first | exact rfl | (simp only [List.all_cons, goodOf, Bool.true_and]; exact rfl)))
                    (case dz => exact fun q hq => hdZ q (.tail _ (.tail _ (.tail _ hq))))
                    (case h2 => intro z g1 g2; have a1 := g1 _ (.head _); have a2 := notIn g2 _ (.head _); have a3 := notIn g2 _ (.tail _ (.head _)); have a4 := notIn g2 _ (.tail _ (.tail _ (.head _))); simp only [kstB, a1, a2, a3, a4, g2, if_false, Bool.false_eq_true])))))
    case done =>
      rintro m9 news9 ⟨rs, kr, iv, ins, ei, gd, t2, hxs, hrs, hbits, hsz, hiv, hins, hgood, hH, htb2, hD2, hI2, rfl⟩ H tk F9 N9
      have F9 := hH.fr F9
      cases hrs with
      | cons => simp at hxs
      | nil =>
        simp only [List.map_nil, List.flatten_nil, List.append_nil] at hins
        simp only [List.all_nil, Bool.and_true] at hgood
        rw [← hins, ← hgood] at hQR
        (try dsimp only)
        (try k_fold)
        k_steps
        exact hQR _ _ <| Ret.intro [(_, _), (_, _)] htb2 (by k_asm) (by k_asm) (List.forall_mem_cons.mpr ⟨.head _, List.forall_mem_cons.mpr ⟨.tail _ (.head _), fun p hp => .tail _ (.tail _ (.tail _ (List.mem_append_right _ hp)))⟩⟩) ⟨_, _, _, _, hiv, by first | k_ne | assumption, rfl, rfl⟩


set_option maxHeartbeats 8000000
/- the items -/
def dlStep (it : List Str) (c : Nat) (q b k o : Int) : List Str :=
  if k == 0 && !(q != 0 && b != 0 && isC c (Str.ofString "\\")) then it.set o.toNat (it.getD o.toNat (Str.ofString "") ++ ⟨#[c]⟩) else it
def dlTo (la : Nat) (cs : List Nat) (k1 k2 k3 k4 : List Int) : Nat → List Str
  | 0 => List.replicate (la + 1) (Str.ofString "")
  | i + 1 => dlStep (dlTo la cs k1 k2 k3 k4 i) (cs.getD i 0) (k1.getD i 0) (k2.getD (i + 1) 0) (k3.getD i 0) (k4.getD i 0)
def dlFin (it : List Str) : List Str := if (it.getD (it.length - 1) (Str.ofString "")) == Str.ofString "" then it.dropLast else it
theorem dlSkip1 {it : List Str} {c : Nat} {q b k o : Int} (h : k ≠ 0) : dlStep it c q b k o = it := by simp [dlStep, h]
theorem dlSkip2 {it : List Str} {c : Nat} {q b k o : Int} (hk : k = 0) (hq : q ≠ 0) (hb : b ≠ 0) (hc : ((⟨#[c]⟩ : Str) == Str.ofString "\\") = true) : dlStep it c q b k o = it := by simp [dlStep, hk, hq, hb, isC, hc]
theorem dlPut1 {it : List Str} {z : Str} {c : Nat} {q b k o : Int} (hz : it[o.toNat]? = some z) (hk : k = 0) (_hq : q ≠ 0) (_hb : b ≠ 0) (hc : ((⟨#[c]⟩ : Str) == Str.ofString "\\") = false) : dlStep it c q b k o = it.set o.toNat (z ++ ⟨#[c]⟩) := by
  simp [dlStep, hk, isC, hc, List.getD_eq_getElem?_getD, hz]
theorem dlPut2 {it : List Str} {z : Str} {c : Nat} {q b k o : Int} (hz : it[o.toNat]? = some z) (hk : k = 0) (_hq : q ≠ 0) (hb : b = 0) : dlStep it c q b k o = it.set o.toNat (z ++ ⟨#[c]⟩) := by
  simp [dlStep, hk, hb, List.getD_eq_getElem?_getD, hz]
theorem dlPut3 {it : List Str} {z : Str} {c : Nat} {q b k o : Int} (hz : it[o.toNat]? = some z) (hk : k = 0) (hq : q = 0) : dlStep it c q b k o = it.set o.toNat (z ++ ⟨#[c]⟩) := by
  simp [dlStep, hk, hq, List.getD_eq_getElem?_getD, hz]
theorem set_small {it : List Str} {z : Str} {i j c : Nat} (h : ∀ y ∈ it, y.cps.size ≤ i) (hz : z.cps.size ≤ i) : ∀ y ∈ it.set j (z ++ ⟨#[c]⟩), y.cps.size ≤ i + 1 := by
  intro y hy
  rcases List.mem_or_eq_of_mem_set hy with hy | rfl
  · exact Nat.le_succ_of_le (h y hy)
  · show (z.cps ++ #[c]).size ≤ _
    simp; lia
set_option pp.deepTerms.threshold 5 in
theorem spec_dea {w : World} {mg mb : Str → Option Value} {p : Program} {loose : List Str} {mean : ExcName → Option Value}
  {dp un : Nat} {gd : Option (List Code)} {cn : Str} {cs : Scope} {a : Addr} {ccd : Value} {cl : List (Str × Addr)} {outer : List Env} {A₀ : Around} {base h₀ : Heap} {L : Addr} {m : Str → Option Value} {s : Shared} {Q E : Value → Shared → Prop}
  {news : Led} {x : Str} {d1 d2 d3 d4 : Addr} {v1 v2 v3 v4 : List Value} {k1 k2 k3 k4 : List Int} {la : Nat} {tx tl : Tok}
  (cx : Cx w p loose mean mg mb A₀ base outer h₀ s.heap L m cs) (N : News h₀ L s.heap news)
  (ha : x.cps.all (· < 128) = true) (hlen : x.cps.size ≤ 30) (hla : la ≤ 30)
  (hd1 : s.heap.IsList d1 v1.toArray) (hi1 : IntsAre v1 k1) (hl1 : k1.length = x.cps.size)
  (hd2 : s.heap.IsList d2 v2.toArray) (hi2 : IntsAre v2 k2) (hl2 : k2.length = x.cps.size + 1)
  (hd3 : s.heap.IsList d3 v3.toArray) (hi3 : IntsAre v3 k3) (hl3 : k3.length = x.cps.size)
  (hd4 : s.heap.IsList d4 v4.toArray) (hi4 : IntsAre v4 k4) (hl4 : k4.length = x.cps.size) (ho : ∀ y ∈ k4, 0 ≤ y ∧ y ≤ (la : Int))
  (hdp : dp + 4 < recursionLimit) (hun : un + 100 < cLine)
  (hret : ∀ r vs ep h' tk', Txts vs ((dlFin (dlTo la x.cps.toList k1 k2 k3 k4 x.cps.size)).map Txt.strip) → Fr h₀ L h' m → News h₀ L h' ((r, W.listOf vs.toArray ep) :: news) → (∀ q ∈ news, q.1 ≠ r) → Q (.ref r) { s with heap := h', toks := tk' }) :
  wpAny (model PySem.Challenge.pw_pg0162_01 w) (ktrTop dp un gd cn cs L a ccd cl outer) (call (.ref 85) [.str x tx, .ref d1, .ref d2, .ref d3, .ref d4, .int (la : Int) tl]) Q E s := by
  k_with_none
  k_with "CJ" => (first | exact cj0 (by with_reducible assumption) | exact cj1 (by with_reducible assumption) | exact cj2 (by with_reducible assumption) | exact cj2z (by with_reducible assumption) | exact cj3 (by with_reducible assumption) | exact cj3z (by with_reducible assumption) | exact cj4 (by with_reducible assumption) | exact cj4z (by with_reducible assumption) | exact cj5 (by with_reducible assumption) | exact cj5z (by with_reducible assumption) | exact cj6 (by with_reducible assumption) | exact cj6z (by with_reducible assumption) | exact cj7 (by with_reducible assumption) | exact cj7z (by with_reducible assumption))
  k_with "NE" => ((refine neN ?_; (try dsimp only); first | walk_at "CJ" | exact Ne.symm (by walk_at "CJ") | exact Nat.ne_of_lt (by walk_at "CJ") | exact Nat.ne_of_gt (by walk_at "CJ") | exact neP (by walk_at "CJ") | exact Ne.symm (neP (by walk_at "CJ")) | exact neQ (by decide) | exact neR (by decide) | exact Ne.symm (neR (by decide)) | lia))
  k_with "MEM" => (k_dflt assumption)
  k_with "ALL" => ((refine' TB.off (by assumption) (by k_asm) (by k_mem) (by first | (((intro _ zh9; (repeat (first | exact zh9 | exact List.mem_append_right _ zh9 | refine' List.Mem.tail _ ?_)))); done) | fail) (by first | ((first | (intro _ zh9; cases zh9; done) | (intro _ zh9; simp_all)); done) | fail)))
  k_with "ALL" => (first | assumption | exact ofAllLt (by assumption) | exact ofAllLt (allLt_left (by assumption)) | (refine' forallApp ?_ ?_ <;> k_all))
  k_with "ROOM" => (first | lia | ((try simp only [depth_under_make, depth_under_kw, depth_in1, depth_deeper, depth_caller, recursionLimit, units_in1, units_deeper, Around.mark_units, units_caller, cLine] at *); (try dsimp only [ktrTop] at *); lia))
  k_with "TAILIN" => ((intro _ zh9; (try simp only [List.nil_append] at zh9); (repeat (first | exact zh9 | refine' List.Mem.tail _ ?_))))
  k_with "SUBL" => (((try simp only [List.cons_append, List.nil_append]); (repeat (refine List.forall_mem_cons.mpr ⟨by k_mem, ?_⟩)); first | exact List.forall_mem_nil _ | walk_at "TAILIN"))
  k_with "CX" => (exact ⟨by k_asm, by k_asm, by k_asm, by k_asm, by first | exact rfl | assumption, by assumption, by assumption⟩)
  k_with "APP" => ((repeat (first | exact App.nil | exact App.gen _ _ | apply App.cons)))
  k_with "DIS" => ((repeat (first | exact Dis.nil | assumption | (refine' Dis.cons ?_ ?_; focus (first | assumption | k_all)))))
  k_with "call ref" => ((k_here; k_dflt (refine' spec_d2i (by first | ((walk_at "CX"); done) | fail) (by k_asm) (by assumption) (by first | ((walk_at "APP"); done) | fail) (by first | ((walk_at "DIS"); done) | fail) (by is_list) (by l_ints) (by lia) (by first | ((walk_at "LEN"); done) | fail) (by assumption) (by first | ((walk_at "ROOM"); done) | fail) (by first | ((walk_at "ROOM"); done) | fail) ?_; intro _ _ _ _ _ _ zN9 _; (try simp only [List.cons_append, List.nil_append] at zN9); (try dsimp only); (try k_fold))))
  k_with "call ref" => ((k_here; k_dflt (refine' spec_i2d (by first | ((walk_at "CX"); done) | fail) (by k_asm) (by assumption) (by first | ((walk_at "APP"); done) | fail) (by first | ((walk_at "DIS"); done) | fail) (by lia) (by lia) (by assumption) _ (by assumption) (by lia) (by assumption) (by first | ((walk_at "ROOM"); done) | fail) (by first | ((walk_at "ROOM"); done) | fail) ?_; intro _ _ _ _ _ _ _ _ _ zN9 zhf9 _; (try simp only [List.cons_append, List.nil_append] at zN9); (replace zhf9 := allNe_of zhf9; try simp only [AllNe, and_true] at zhf9); (try dsimp only); (try k_fold))))
  k_with "call ref" => ((k_here; k_dflt (refine' spec_d2n (by first | ((walk_at "CX"); done) | fail) (by k_asm) (by assumption) (by assumption) (by assumption) (by first | ((walk_at "ROOM"); done) | fail) (by first | ((walk_at "ROOM"); done) | fail) ?_; intro _ _ _ _ _ _ _ zhf9; (replace zhf9 := allNe_of zhf9; simp only [AllNe, and_true] at zhf9); (try dsimp only); (try k_fold))))
  k_with "LEN" => (first | lia | ((try simp only [List.length_reverse, List.length_append, List.length_map, List.length_cons, List.length_nil, digs_length]); lia))
  k_with "call builtin:list.append" => ((k_here; k_dflt ((try dsimp only); refine' append_K (by k_asm) (by k_asm) (by k_upd) ?_ (by first | ((first | size_fits | (rw [sizeLine_eq]; simp only [List.size_toArray]; lia)); done) | fail)); intro _ _ zN9; (try simp only [List.push_toArray] at zN9); (try k_sweep)))
  k_with "OFF1" => ((repeat (first | exact List.forall_mem_nil _ | (refine' List.forall_mem_cons.mpr ⟨?_, ?_⟩; focus k_ne) | assumption | exact ofAllLt (by assumption) | k_all)))
  k_with "OFF" => ((refine' offSwap ?_; (repeat (first | exact List.forall_mem_nil _ | (refine' List.forall_mem_cons.mpr ⟨?_, ?_⟩; focus walk_at "OFF1")))))
  k_with "call builtin:list.reverse" => ((k_here; k_dflt ((try dsimp only); refine' kl_reverseU (by k_asm) (by k_asm) (by k_upd) (by exact rev_arr _) (by exact szl (by assumption)) ?_); intro _ _ _; (try k_sweep)))
  k_with "call ref" => ((k_here; k_dflt (refine' spec_dpos (by first | ((walk_at "CX"); done) | fail) (by k_asm) (by assumption) (by first | ((walk_at "APP"); done) | fail) (by first | ((walk_at "DIS"); done) | fail) (by first | ((first | assumption | lia); done) | fail) (by first | ((first | assumption | lia); done) | fail) (by assumption) (by assumption) (by first | ((walk_at "ROOM"); done) | fail) (by first | ((walk_at "ROOM"); done) | fail) ?_; intro _ _ _ _ _ _ _ _ zN9 zhf9 _; (try simp only [List.cons_append, List.nil_append] at zN9); (replace zhf9 := allNe_of zhf9; try simp only [AllNe, and_true] at zhf9); (try dsimp only); (try k_fold))))
  k_with "call ref" => ((k_here; k_dflt (refine' spec_idm (by first | ((walk_at "CX"); done) | fail) (by k_asm) (by assumption) (by first | ((walk_at "APP"); done) | fail) (by first | ((walk_at "DIS"); done) | fail) (by first | ((first | assumption | lia); done) | fail) (by first | ((first | assumption | lia); done) | fail) (by assumption) (by assumption) (by first | ((walk_at "ROOM"); done) | fail) (by first | ((walk_at "ROOM"); done) | fail) ?_; intro _ _ _ _ _ _ _ _ zN9 zhf9 _; (try simp only [List.cons_append, List.nil_append] at zN9); (replace zhf9 := allNe_of zhf9; try simp only [AllNe, and_true] at zhf9); (try dsimp only); (try k_fold))))
  k_with "call type:list" => ((k_here; k_dflt (refine' list_revK (by exact rfl) (by k_asm) (by k_asm) (by first | ((first | k_all | fail); done) | fail) (by is_list) (by l_ints) (by first | ((walk_at "LEN"); done) | fail) ?_; intro _ _ _ _ _ _ _ _ _; (try k_sweep))))
  k_with "call builtin:len" => ((k_here; k_dflt (refine' len_ints (by is_list) (by l_ints) (by first | ((first | exact digs_length _ _ _ | exact rfl); done) | fail) (by lia) ?_; (try dsimp only))))
  k_with "SUMLEN" => (((try simp only [digs_length, List.length_append, List.length_reverse, List.length_map]); (simp only [sizeLine_eq]); first | lia | (rename_i e2' e3'; simp_all; lia)))
  k_with "binaryOp Add ref ref" => ((k_here; (with_reducible show wpAny _ _ (binaryOp _ (Value.ref _) (Value.ref _)) _ _ _); k_dflt ((try dsimp only); refine' kmk_add_ints (by k_asm) (by k_asm) (by kmk_list) (by kmk_list) (by l_ints) (by l_ints) ?_ (by first | ((first | walk_at "SUMLEN" | fail); done) | fail)); intro _ _ _ _ _ zl1 _; (try k_lt zl1); (try k_sweep)))
  k_with "TAILIN1" => ((repeat (first | assumption | refine' List.Mem.tail _ ?_)))
  k_with "call ref" => ((k_here; k_dflt (refine' spec_div (by first | ((walk_at "CX"); done) | fail) (by k_asm) (by assumption) (by first | ((walk_at "APP"); done) | fail) (by first | ((walk_at "DIS"); done) | fail) (by first | ((first | is_list | exact News.isList (by k_asm) (by walk_at "MEMU")); done) | fail) (by first | ((first | assumption | l_ints); done) | fail) (by assumption) (by first | ((walk_at "LEN"); done) | fail) (by assumption) (by assumption) (by first | ((first | exact .inl rfl | exact .inr rfl); done) | fail) (by first | ((walk_at "ROOM"); done) | fail) (by first | ((walk_at "ROOM"); done) | fail) ?_; intro _ _ _ _ _ _ _ _ _ _ _ zN9 zhr9 zhf9 _ _; (try simp only [List.cons_append, List.nil_append] at zN9); (replace zhr9 := allNe_of zhr9; try simp only [AllNe, and_true] at zhr9); (replace zhf9 := allNe_of zhf9; try simp only [AllNe, and_true] at zhf9); (try dsimp only); (try k_fold))))
  k_with "MEMU" => ((repeat (first | exact List.mem_append_left _ (by assumption) | refine' List.Mem.tail _ ?_)))
  k_with "exec For Tuple Call cons nil" => ((k_here; (with_unfolding_all refine' For_turns (by with_reducible assumption) ?_ (fun _ => rfl) PassesOwn.never)))
  k_with "call type:zip" => ((refine' stopHere ?_))
  k_with "eval ListComp" => ((k_here; lcg_look; lcg_calm; k_dflt (refine LCg.ListComp_U (F₀ := by k_asm) (by with_unfolding_all rfl) (by decide) (by rfl) (by decide) (by rfl) ?_)))
  k_with "binaryOp Mult ref int" => ((k_here; (with_reducible show wpAny _ _ (binaryOp Operator.Mult (Value.ref _) (Value.int _ _)) _ _ _); k_dflt (refine' KMa.mul (vs := [_]) (by k_asm) (by k_asm) (by is_list) (by lia) (by lia) (by first | (((simp only [List.length_cons, List.length_nil]; lia)); done) | fail) (by exact rep1V _ _) ?_); intro _ _ _ _ zl1; (try k_lt zl1); (try k_sweep)))
  k_with "getItem ref int" => ((k_here; k_dflt (refine' itemK (by k_asm) (by k_mem) (by lia) (by lia) (by assumption) ?_)))
  k_with "setItem ref int" => ((k_here; k_dflt (refine' setItemK (by k_asm) (by k_asm) (by k_upd) (by lia) (by lia) (by lia) ?_); intro _ _ _; (try k_sweep)))
  k_with "STRLEN" => (first | (simp only [sizeLine_eq]; show Array.size _ + Array.size _ ≤ _; simp only [List.size_toArray, List.length_cons, List.length_nil]; lia))
  k_with "inplaceOp" => ((k_here; k_dflt ((try dsimp only); refine' iadd_str ?_ (by first | ((walk_at "STRLEN"); done) | fail); intro _ _; (try dsimp only))))
  k_with "subscriptTail" => ((k_here; k_dflt (refine' kim_back (by k_asm) (by k_mem) (by exact rfl) (by exact rfl) (by decide) (by lia) (by decide) (by assumption) ?_)))
  k_with "call builtin:list.pop" => ((k_here; k_dflt (refine' kl_pop (by k_asm) (by k_asm) (by assumption) (by k_upd) (by first | (((rw [sizeLine_eq]; simp only [List.size_toArray]; lia)); done) | fail) ?_); intro _ _ zN9; (try dsimp only [List.nil_append, List.cons_append] at zN9)))
  w_on
  w_top on
  obtain ⟨B, F, X, T, hk, CA, CB⟩ := cx
  have hdp' : dp + 4 < 1000 := hdp
  have hun' : un + 100 < 9900 := hun
  have hgb : GotBack NoT h₀ L m news s (fun v new => ∃ r vs ep, Txts vs ((dlFin (dlTo la x.cps.toList k1 k2 k3 k4 x.cps.size)).map Txt.strip) ∧ v = .ref r ∧ new = [(r, W.listOf vs.toArray ep)]) Q := by
    rintro _ _ t' h' tk' rfl ⟨r, vs, ep, hv, rfl, rfl⟩ F' N' dn dt
    rw [List.append_nil] at N'
    exact hret r vs ep h' tk' hv F' N' fun q hq => dn q hq _ (.head _)
  clear hret
  have N0 : News h₀ L s.heap (news ++ []) := by rw [List.append_nil]; exact N
  have hown : Dis news [] := fun _ _ _ h => nomatch h
  first | k_dflt ((
        refine' enterP ?k1 ?k2 ?k3 ?k4 ?k5 ?k6 ?kA ?kF ?kK ?k7 ?kd ?k8 ?k9 ?kb ?kB ?kr ?_ ?kc ?c2 ?c3 ?c4
        (case kr => assumption); (case kA => exact rfl); (case kF => exact rfl); (case kK => assumption)
        (case k1 => k_asm); (case k2 => k_asm); (case k3 => k_asm); (case k4 => k_asm); (case k5 => k_asm); (case k6 => assumption)
        (case k7 => k_is); (case kd => exact rfl); (case k8 => k_is); (case k9 => walk_at "ROOM"); (case kb => exact BindsTo.of_eq rfl); (case kB => exact locs rfl); (case kc => decide); (case c2 => exact rfl); (case c3 => exact rfl); (case c4 => exact rfl))) | fail
  intro g' L' h' hkg F' N' B' X' T' l1
  refine holdQ ?_
  intro QR hQR
  have hd1' := listIn0 hkg hd1
  have hd2' := listIn0 hkg hd2
  have hd3' := listIn0 hkg hd3
  have hd4' := listIn0 hkg hd4
  clear hkg hgb N0 N F B X T hown l1 hd1 hd2 hd3 hd4
  (try dsimp only)
  (try k_fold)
  k_steps
  rename_i l0 y1 y2 lI y3 y4 D ws y7 F0 N0 hiw hcw hlw lt1
  refine' Stop.go ?_
  have N1 := newsSub (l' := [(D, W.listOf ws.toArray 0), (lI, W.listOf (List.replicate ((la : Int) + 1).toNat (Value.str (Str.ofString "") _)).toArray 0)]) N0 (fun p hp => by
    rcases List.mem_cons.mp hp with rfl | hp
    · exact .head _
    · rw [List.mem_singleton.mp hp]; exact .tail _ (.head _))
  clear N0
  have ltID : @LT.lt Nat _ lI D := lt1.1
  have hdg1 : g'.IsList d1 v1.toArray := hd1'
  have hdg2 : g'.IsList d3 v3.toArray := hd3'
  have hdg3 : g'.IsList d4 v4.toArray := hd4'
  obtain ⟨o1, ho1, _⟩ := hdg1
  obtain ⟨o3, ho3, _⟩ := hdg2
  obtain ⟨o4, ho4, _⟩ := hdg3
  have hvl1 : v1.length = k1.length := hi1.length
  have hvl3 : v3.length = k3.length := hi3.length
  have hvl4 : v4.length = k4.length := hi4.length
  have hwl : ws.length = (List.drop 1 k2).length := hiw.length
  have hwd := hwl
  rw [List.length_drop] at hwd
  k_dflt refine' zipG_turns (x := .txt x tx) (r := [.lst d1 v1.toArray, .lst D ws.toArray, .lst d3 v3.toArray, .lst d4 v4.toArray]) (keep := [(D, W.listOf ws.toArray 0)]) ?hh rfl ?hct ?hcn ?hok ?F ?N ?hkp ?ok ?small ?hn ?hfp (fun m₀ i m news => ∃ (rv : List Value),
    Txts rv (dlTo la x.cps.toList k1 k2 k3 k4 i) ∧ rv.length = la + 1 ∧ (∀ y ∈ dlTo la x.cps.toList k1 k2 k3 k4 i, y.cps.size ≤ i) ∧
    Held m₀ [Str.ofString "sign", Str.ofString "quoted", Str.ofString "behind", Str.ofString "cut", Str.ofString "owner"] [] m ∧ news = [(D, W.listOf ws.toArray 0), (lI, W.listOf rv.toArray 0)]) ?start ?step ?done
  case hh => exact rfl
  case F => k_asm
  case N => k_asm
  case hkp => exact fun p hp => by rw [List.mem_singleton.mp hp]; exact .head _
  case hct => kernel_rfl
  case hcn => kernel_rfl
  case hok => intro obj; exact initArgs6 obj _ _ _ _ _
  case ok =>
    refine List.forall_mem_cons.mpr ⟨ha, List.forall_mem_cons.mpr ⟨?_, List.forall_mem_cons.mpr ⟨?_, List.forall_mem_cons.mpr ⟨?_, List.forall_mem_cons.mpr ⟨?_, List.forall_mem_nil _⟩⟩⟩⟩⟩ <;> k_dflt is_list
  case small => simp
  case hn =>
    refine List.forall_mem_cons.mpr ⟨Nat.le_refl _, List.forall_mem_cons.mpr ⟨?_, List.forall_mem_cons.mpr ⟨?_, List.forall_mem_cons.mpr ⟨?_, List.forall_mem_cons.mpr ⟨?_, List.forall_mem_nil _⟩⟩⟩⟩⟩ <;> (show x.cps.size ≤ Array.size _; simp; lia)
  case hfp =>
    refine List.forall_mem_cons.mpr ⟨(fun _ h => nomatch h), List.forall_mem_cons.mpr ⟨?_, List.forall_mem_cons.mpr ⟨?_, List.forall_mem_cons.mpr ⟨?_, List.forall_mem_cons.mpr ⟨?_, List.forall_mem_nil _⟩⟩⟩⟩⟩ <;> (intro b hb; rw [List.mem_singleton.mp hb])
    · exact .inr ⟨_, ho1⟩
    · exact .inl ⟨_, .head _⟩
    · exact .inr ⟨_, ho3⟩
    · exact .inr ⟨_, ho4⟩
  case start =>
    have e9 : ((la : Int) + 1).toNat = la + 1 := by lia
    rw [e9]
    refine' ⟨_, txtsRep _ _ _, List.length_replicate, ?_, ⟨(fun _ h => nomatch h), (fun _ _ _ => rfl)⟩, rfl⟩
    intro y hy
    rw [List.eq_of_mem_replicate hy]
    exact Nat.le_refl _
  case step =>
    rintro I lI9 i m9 news9 T9 vals hi9 hdr ⟨rv, hT, hrl, hsm, hH, rfl⟩ H tk hTup F9
    cases hdr with
    | cons hcS hdr =>
    cases hdr with
    | cons hqS hdr =>
    cases hdr with
    | cons hbS hdr =>
    cases hdr with
    | cons hkS hdr =>
    cases hdr with
    | cons hoS hdr =>
    cases hdr
    obtain ⟨c, u, hc, rfl⟩ := hcS
    obtain ⟨q, tq, hq, rfl⟩ := intsGetK hi1 (by simpa [Src.P] using hqS)
    obtain ⟨b, tb, hb, rfl⟩ := intsGetK hiw (by simpa [Src.P] using hbS)
    obtain ⟨k, tk9, hk9, rfl⟩ := intsGetK hi3 (by simpa [Src.P] using hkS)
    obtain ⟨o, to, ho9, rfl⟩ := intsGetK hi4 (by simpa [Src.P] using hoS)
    clear hqS hbS hkS hoS
    have hob := ho o (List.mem_of_getElem? ho9)
    have F9 := hH.fr F9
    have hi9 : i < x.cps.size := hi9
    have hsn : dlTo la x.cps.toList k1 k2 k3 k4 (i + 1) = dlStep (dlTo la x.cps.toList k1 k2 k3 k4 i) c q b k o := by
      have hc' : x.cps.toList[i]? = some c := by simpa using hc
      have hb' : k2[i + 1]? = some b := by rw [← hb, List.getElem?_drop, Nat.add_comm]
      simp only [dlTo, List.getD_eq_getElem?_getD, hc', hq, hb', hk9, ho9, Option.getD_some]
    generalize dlTo la x.cps.toList k1 k2 k3 k4 i = its at hT hsm hsn
    have hol : o.toNat < rv.length := by lia
    obtain ⟨z, tz, hz, hzv⟩ := hT.get (i := o.toNat) (List.getElem?_eq_getElem hol)
    have hzs : z.cps.size ≤ i := hsm z (List.mem_of_getElem? hz)
    have hzget : rv[o.toNat]? = some (Value.str z tz) := by rw [List.getElem?_eq_getElem hol, hzv]
    clear hzv
    rw [zws5]
    refine AllObj.cons fun z1 hz1 => AllObj.cons fun z2 hz2 => AllObj.cons fun z3 hz3 => AllObj.cons fun z4 hz4 => AllObj.cons fun z5 hz5 => AllObj.cons fun z6 hz6 => AllObj.cons fun z7 hz7 => AllObj.cons fun z8 hz8 => AllObj.nil ?_
    intro N9
    simp only [List.cons_append, List.nil_append] at N9
    refine holdT ?_
    intro QT hQT
    have hlt1 : @LT.lt Nat _ D I := lI9 _ (.head _)
    have hlt2 : @LT.lt Nat _ lI I := lI9 (lI, _) (.tail _ (.head _))
    clear lI9
    (try dsimp only)
    (try k_fold)
    k_steps
    all_goals ((
          refine' hQT _ _ ?_
          refine' TurnP.next ?F ?N [(D, _), (lI, _)] ?hs ?off ?r
          (case F => k_asm)
          (case N => k_asm)
          (case hs => first | walk_at "SUBL" | fail)
          (case off => first | walk_at "OFF" | fail)
          (case r =>
            rw [hsn]
            first | rw [dlSkip1 (by assumption)] | rw [dlSkip2 (by assumption) (by assumption) (by assumption) (by assumption)] | rw [dlPut1 hz (by assumption) (by assumption) (by assumption) (by assumption)] | rw [dlPut2 hz (by assumption) (by assumption) (by assumption)] | rw [dlPut3 hz (by assumption) (by assumption)]
            refine' ⟨fun p hp => by rw [List.mem_singleton.mp hp]; exact .head _, _, ?hT, ?hrl, ?hsm, ⟨(fun _ h => nomatch h), ?h2⟩, rfl⟩
            (case hT => first | exact hT | exact hT.set _)
            (case hrl => first | exact hrl | (rw [List.length_set]; exact hrl))
            (case hsm => first | exact set_small hsm hzs | exact fun y hy => Nat.le_succ_of_le (hsm y hy))
            (case h2 => intro z g1 g2; have a1 := notIn g2 _ (.head _); have a2 := notIn g2 _ (.tail _ (.head _)); have a3 := notIn g2 _ (.tail _ (.tail _ (.head _))); have a4 := notIn g2 _ (.tail _ (.tail _ (.tail _ (.head _)))); have a5 := notIn g2 _ (.tail _ (.tail _ (.tail _ (.tail _ (.head _))))); simp only [kstB, a1, a2, a3, a4, a5, g2, if_false, Bool.false_eq_true]))))
  case done =>
    rintro m9 news9 ⟨rv, hT, hrl, hsm, hH, rfl⟩ H tk F9 N9
    have F9 := hH.fr F9
    have hsm : ∀ y ∈ dlTo la x.cps.toList k1 k2 k3 k4 x.cps.size, y.cps.size ≤ x.cps.size := hsm
    have hT : Txts rv (dlTo la x.cps.toList k1 k2 k3 k4 x.cps.size) := hT
    generalize dlTo la x.cps.toList k1 k2 k3 k4 x.cps.size = its at hT hsm hQR
    have hlen2 := hT.length
    obtain ⟨z, tz, hz, hzv⟩ := hT.get (i := la) (List.getElem?_eq_getElem (by lia))
    have hzget : rv[((-1 : Int) + (rv.length : Int)).toNat]? = some (Value.str z tz) := by
      rw [show ((-1 : Int) + (rv.length : Int)).toNat = la by lia, List.getElem?_eq_getElem (by lia), hzv]
    have hzl : rv[la]? = some (Value.str z tz) := by rw [List.getElem?_eq_getElem (by lia), hzv]
    have hpop : kl_last rv.toArray.toList = some (rv.dropLast, Value.str z tz) := popFact hrl hzl
    have hdl : dlFin its = if (z == Str.ofString "") = true then its.dropLast else its := by
      unfold dlFin
      rw [show its.length - 1 = la by lia, List.getD_eq_getElem?_getD, hz, Option.getD_some]
    rw [hdl] at hQR
    have hdr : rv.dropLast.length ≤ 40 := by rw [List.length_dropLast]; lia
    have hrl2 : rv.length ≤ 40 := by lia
    have hsm1 : ∀ y ∈ its, y.cps.size ≤ 40 := fun y hy => Nat.le_trans (hsm y hy) (by lia)
    have hsm2 : ∀ y ∈ its.dropLast, y.cps.size ≤ 40 := fun y hy => hsm1 y (List.dropLast_subset _ hy)
    have hT2 := hT.dropLast
    clear hzv hdl
    (try dsimp only)
    (try k_fold)
    k_steps
    · ((
          first | rw [if_pos (by assumption)] at hQR | rw [if_neg (by simp only [*, Bool.false_eq_true, not_false_eq_true])] at hQR
          k_dflt refine LCg.CompSrc.ledger (by rfl) (by k_asm) (by k_asm) (by k_mem) (by rw [sizeLine_eq]; simp only [List.size_toArray]; lia) ?_
          intro g9
          first
          | (have hT9 : Txts rv its := hT
             have hs9 : ∀ y ∈ its, y.cps.size ≤ 40 := hsm1
             refine comp_map (n := rv.toArray.size) (fun i y => ∃ z t, (its.map Txt.strip)[i]? = some z ∧ y = .str z t) ?hS ?fin ?step _ 0 [] (Nat.zero_add _) rfl (fun j y h => by simp at h))
          | (have hT9 : Txts rv.dropLast its.dropLast := hT2
             have hs9 : ∀ y ∈ its.dropLast, y.cps.size ≤ 40 := hsm2
             refine comp_map (n := rv.dropLast.toArray.size) (fun i y => ∃ z t, (its.dropLast.map Txt.strip)[i]? = some z ∧ y = .str z t) ?hS ?fin ?step _ 0 [] (Nat.zero_add _) rfl (fun j y h => by simp at h))
          (case hS => exact .inr ⟨_, by k_mem, rfl, _, rfl⟩)
          (case fin =>
            intro ys hl hr
            have hys := Txts.of (by rw [hl, List.length_map, List.size_toArray]; exact hT9.length) hr
            unfold LCg.FinE
            intro D8 h8 tk8 F8 N8 o8
            (try simp only [LCg.Off1, and_true] at o8)
            (try dsimp only)
            exact hQR _ _ <| Ret.intro (t' := []) [(_, _)] rfl (by k_asm) (by k_asm) (by first | walk_at "SUBL" | fail) ⟨_, _, _, hys, rfl, rfl⟩)
          (case step =>
            intro i v I9 oI C9 oC D9 m₂ h8 tk8 E8 ys hP9 hC hx F8 N8 off ne
            obtain ⟨z, t9, hz, rfl⟩ := hT9.get (by simpa using hP9)
            have hz40 : z.cps.size ≤ 40 := hs9 z (List.mem_of_getElem? hz)
            have hz41 : z.length ≤ 40 := hz40
            (try simp only [LCg.Off3, and_true] at off)
            (try dsimp only)
            k_steps
            all_goals first | assumption | exact rfl | (rw [List.getElem?_map, hz]; exact rfl))))
    · ((
          first | rw [if_pos (by assumption)] at hQR | rw [if_neg (by simp only [*, Bool.false_eq_true, not_false_eq_true])] at hQR
          k_dflt refine LCg.CompSrc.ledger (by rfl) (by k_asm) (by k_asm) (by k_mem) (by rw [sizeLine_eq]; simp only [List.size_toArray]; lia) ?_
          intro g9
          first
          | (have hT9 : Txts rv its := hT
             have hs9 : ∀ y ∈ its, y.cps.size ≤ 40 := hsm1
             refine comp_map (n := rv.toArray.size) (fun i y => ∃ z t, (its.map Txt.strip)[i]? = some z ∧ y = .str z t) ?hS ?fin ?step _ 0 [] (Nat.zero_add _) rfl (fun j y h => by simp at h))
          | (have hT9 : Txts rv.dropLast its.dropLast := hT2
             have hs9 : ∀ y ∈ its.dropLast, y.cps.size ≤ 40 := hsm2
             refine comp_map (n := rv.dropLast.toArray.size) (fun i y => ∃ z t, (its.dropLast.map Txt.strip)[i]? = some z ∧ y = .str z t) ?hS ?fin ?step _ 0 [] (Nat.zero_add _) rfl (fun j y h => by simp at h))
          (case hS => exact .inr ⟨_, by k_mem, rfl, _, rfl⟩)
          (case fin =>
            intro ys hl hr
            have hys := Txts.of (by rw [hl, List.length_map, List.size_toArray]; exact hT9.length) hr
            unfold LCg.FinE
            intro D8 h8 tk8 F8 N8 o8
            (try simp only [LCg.Off1, and_true] at o8)
            (try dsimp only)
            exact hQR _ _ <| Ret.intro (t' := []) [(_, _)] rfl (by k_asm) (by k_asm) (by first | walk_at "SUBL" | fail) ⟨_, _, _, hys, rfl, rfl⟩)
          (case step =>
            intro i v I9 oI C9 oC D9 m₂ h8 tk8 E8 ys hP9 hC hx F8 N8 off ne
            obtain ⟨z, t9, hz, rfl⟩ := hT9.get (by simpa using hP9)
            have hz40 : z.cps.size ≤ 40 := hs9 z (List.mem_of_getElem? hz)
            have hz41 : z.length ≤ 40 := hz40
            (try simp only [LCg.Off3, and_true] at off)
            (try dsimp only)
            k_steps
            all_goals first | assumption | exact rfl | (rw [List.getElem?_map, hz]; exact rfl))))

/- the plain law: shielded signs -/
def shF : Bool → List Nat → List Int
  | e, [] => [if e then 1 else 0]
  | e, c :: r => (if e then 1 else 0) :: shF (!e && c == 92) r
def inF : Bool → Bool → List Nat → List Int
  | _, _, [] => []
  | p, e, c :: r => (if c == 34 && e then 0 else if p then 1 else 0) :: inF (if c == 34 then (e || !p) else p) (!e && c == 92) r
def cuF (cs : List Nat) (ins : List Int) : List Int := List.zipWith (fun c q => if c == 44 && q == 0 then 1 else 0) cs ins
def preS : Int → List Int → List Int
  | _, [] => []
  | a, k :: r => a :: preS (a + k) r
theorem shF_length : ∀ (e : Bool) (cs : List Nat), (shF e cs).length = cs.length + 1
  | _, [] => rfl
  | _, _ :: r => by simp [shF, shF_length _ r]
theorem shF_range : ∀ (e : Bool) (cs : List Nat), ∀ y ∈ shF e cs, 0 ≤ y ∧ y < 2
  | e, [], y, h => by cases e <;> simp [shF] at h <;> lia
  | e, c :: r, y, h => by
    rcases List.mem_cons.mp h with rfl | h
    · cases e <;> decide
    · exact shF_range _ r y h
theorem inF_length : ∀ (p e : Bool) (cs : List Nat), (inF p e cs).length = cs.length
  | _, _, [] => rfl
  | _, _, _ :: r => by simp [inF, inF_length _ _ r]
theorem cuF_length {cs : List Nat} {ins : List Int} (h : ins.length = cs.length) : (cuF cs ins).length = cs.length := by simp [cuF, h]
theorem cuF_get {cs : List Nat} {ins : List Int} {i c : Nat} {q v : Int} (hc : cs[i]? = some c) (hq : ins[i]? = some q) (e : (if c == 44 && q == 0 then (1 : Int) else 0) = v) : (cuF cs ins)[i]? = some v := by
  rw [cuF, List.getElem?_zipWith, hc, hq]
  exact congrArg some e
theorem cuA {c : Nat} {q : Int} (h : ((⟨#[c]⟩ : Str) == Str.ofString ",") = true) (hq : q = 0) : (if c == 44 && q == 0 then (1 : Int) else 0) = 1 := by
  have e := isC44 c
  unfold isC at e
  have hc : c = 44 := by rw [h] at e; exact of_decide_eq_true e.symm
  rw [hc, hq]; rfl
theorem cuB {c : Nat} {q : Int} (h : ((⟨#[c]⟩ : Str) == Str.ofString ",") = false) : (if c == 44 && q == 0 then (1 : Int) else 0) = 0 := by
  have e := isC44 c
  unfold isC at e
  have hc : ¬ c = 44 := by rw [h] at e; exact of_decide_eq_false e.symm
  rw [if_neg]
  simp [hc]
theorem cuC {c : Nat} {q : Int} (hq : q ≠ 0) : (if c == 44 && q == 0 then (1 : Int) else 0) = 0 := by
  rw [if_neg]
  simp [hq]
theorem cuF_range {cs : List Nat} {ins : List Int} : ∀ y ∈ cuF cs ins, 0 ≤ y ∧ y ≤ 1 := by
  intro y hy
  obtain ⟨c, q, _, _, rfl⟩ : ∃ c q, c ∈ cs ∧ q ∈ ins ∧ (if c == 44 && q == 0 then (1 : Int) else 0) = y := by
    unfold cuF at hy
    rw [List.mem_iff_getElem?] at hy
    obtain ⟨i, hi⟩ := hy
    rw [List.getElem?_zipWith] at hi
    cases h1 : cs[i]? with
    | none => rw [h1] at hi; simp at hi
    | some c =>
      cases h2 : ins[i]? with
      | none => rw [h1, h2] at hi; simp at hi
      | some q =>
        rw [h1, h2] at hi
        exact ⟨c, q, List.mem_of_getElem? h1, List.mem_of_getElem? h2, by simpa using hi⟩
  split <;> decide
theorem sum_le : ∀ (ks : List Int), (∀ y ∈ ks, 0 ≤ y ∧ y ≤ 1) → 0 ≤ ks.sum ∧ ks.sum ≤ ks.length
  | [], _ => by simp
  | k :: r, h => by
    have h1 := h k (.head _)
    have h2 := sum_le r fun y hy => h y (.tail _ hy)
    rw [List.sum_cons, List.length_cons]
    lia
theorem preS_length : ∀ (a : Int) (ks : List Int), (preS a ks).length = ks.length
  | _, [] => rfl
  | a, k :: r => by simp [preS, preS_length _ r]
theorem preS_range : ∀ (a : Int) (ks : List Int), (∀ y ∈ ks, 0 ≤ y) → ∀ y ∈ preS a ks, a ≤ y ∧ y ≤ a + ks.sum
  | _, [], _, _, h => nomatch h
  | a, k :: r, hk, y, h => by
    have h1 := hk k (.head _)
    have h0 : 0 ≤ r.sum := by
      have : ∀ l : List Int, (∀ y ∈ l, 0 ≤ y) → 0 ≤ l.sum := by
        intro l
        induction l with
        | nil => simp
        | cons a l ih => intro h; rw [List.sum_cons]; have := h a (.head _); have := ih fun y hy => h y (.tail _ hy); lia
      exact this r fun y hy => hk y (.tail _ hy)
    rw [List.sum_cons]
    rcases List.mem_cons.mp h with rfl | h
    · lia
    · have := preS_range (a + k) r (fun y hy => hk y (.tail _ hy)) y h
      lia
theorem digs_digVal (n : Nat) : ∀ ds : List Int, (∀ y ∈ ds, 0 ≤ y ∧ y < 2 ^ n) → digs n ds.length (digVal n ds) = ds
  | [], _ => rfl
  | d :: r, h => by
    have h1 := h d (.head _)
    have hp := pow_pos2 n
    show (d + 2 ^ n * digVal n r) % 2 ^ n :: digs n r.length ((d + 2 ^ n * digVal n r) / 2 ^ n) = d :: r
    rw [Int.add_mul_emod_self_left, Int.emod_eq_of_lt h1.1 h1.2, Int.add_mul_ediv_left _ _ (Int.ne_of_gt hp), Int.ediv_eq_zero_of_lt h1.1 h1.2, Int.zero_add, digs_digVal n r fun y hy => h y (.tail _ hy)]
theorem digVal_front (n : Nat) (k : Int) (r : List Int) : digVal n (k :: r).reverse = digVal n r.reverse + 2 ^ (n * r.length) * k := by
  rw [List.reverse_cons, digVal_append, List.length_reverse]
  show _ + _ * (k + 2 ^ n * 0) = _
  rw [Int.mul_zero, Int.add_zero]
theorem pow_more (n l : Nat) : (2 : Int) ^ (n * (l + 1)) = 2 ^ (n * l) * 2 ^ n := by rw [Nat.mul_succ, Int.pow_add]
theorem pre_val (n : Nat) : ∀ (ks : List Int) (a : Int), (2 ^ n - 1) * digVal n (preS a ks).reverse + (a + ks.sum) = digVal n ks.reverse + a * 2 ^ (n * ks.length)
  | [], a => by simp [preS, digVal]
  | k :: r, a => by
    have ih := pre_val n r (a + k)
    have e1 : digVal n (preS a (k :: r)).reverse = digVal n (preS (a + k) r).reverse + 2 ^ (n * r.length) * a := by
      show digVal n (a :: preS (a + k) r).reverse = _
      rw [digVal_front, preS_length]
    rw [e1, digVal_front, List.sum_cons, List.length_cons, pow_more]
    generalize digVal n (preS (a + k) r).reverse = T at *
    generalize digVal n r.reverse = D at *
    generalize (2 : Int) ^ (n * r.length) = U at *
    generalize (2 : Int) ^ n = B at *
    have h1 : (B - 1) * (T + U * a) = (B - 1) * T + (U * B * a - U * a) := by
      rw [Int.mul_add, Int.sub_mul B 1 (U * a), Int.one_mul, ← Int.mul_assoc, Int.mul_comm B U]
    have h2 : (a + k) * U = U * a + U * k := by rw [Int.add_mul, Int.mul_comm a, Int.mul_comm k]
    have h3 : a * (U * B) = U * B * a := Int.mul_comm _ _
    rw [h2] at ih
    rw [h1, h3]
    lia
theorem sum_div {wd : Nat} (h6 : 6 ≤ wd) (ks : List Int) (hk : ∀ y ∈ ks, 0 ≤ y ∧ y ≤ 1) (hl : ks.length ≤ 40) :
    (digs wd ks.length ((digVal wd ks.reverse).fdiv (2 ^ wd + -1))).reverse = preS 0 ks ∧ (digVal wd ks.reverse).fmod (2 ^ wd + -1) = ks.sum := by
  have hs := sum_le ks hk
  have hB : (2 : Int) ^ 6 ≤ 2 ^ wd := pow_mono2 h6
  have key := pre_val wd ks 0
  have hT : digVal wd ks.reverse = ks.sum + (2 ^ wd + -1) * digVal wd (preS 0 ks).reverse := by
    rw [Int.zero_mul, Int.add_zero, Int.zero_add] at key
    rw [← key, Int.add_comm, Int.sub_eq_add_neg]
  have hpos : (0 : Int) < 2 ^ wd + -1 := by lia
  have hr : ∀ y ∈ (preS 0 ks).reverse, 0 ≤ y ∧ y < 2 ^ wd := by
    intro y hy
    have := preS_range 0 ks (fun z hz => (hk z hz).1) y (List.mem_reverse.mp hy)
    lia
  rw [Int.fdiv_eq_ediv_of_nonneg _ (Int.le_of_lt hpos), Int.fmod_eq_emod_of_nonneg _ (Int.le_of_lt hpos), hT, Int.add_mul_emod_self_left, Int.add_mul_ediv_left _ _ (Int.ne_of_gt hpos),
    Int.ediv_eq_zero_of_lt hs.1 (by lia), Int.emod_eq_of_lt hs.1 (by lia), Int.zero_add]
  refine ⟨?_, rfl⟩
  have := digs_digVal wd (preS 0 ks).reverse hr
  rw [List.length_reverse, preS_length] at this
  rw [this, List.reverse_reverse]
/- the shielded signs -/
def b01 (e : Bool) : Int := if e then 1 else 0
def mF : Bool → List Nat → List Int
  | e, [] => [b01 e]
  | e, c :: r => (if c == 92 then 1 else b01 e) :: mF (!e && c == 92) r
theorem mF_length : ∀ (e : Bool) (cs : List Nat), (mF e cs).length = cs.length + 1
  | _, [] => rfl
  | _, _ :: r => by simp [mF, mF_length _ r]
theorem shM_mF : ∀ (cs : List Nat) (run : Int) (e : Bool), run.fmod 2 = b01 e → shM run ((cs.map fun c => (⟨#[c]⟩ : Str)) ++ [Str.ofString ""]) = mF e cs
  | [], run, e, h => by
    show shM run [Str.ofString ""] = _
    have h0 : (Str.ofString "" == Str.ofString "\\") = false := by decide
    simp only [shM, h0, mF, h, Bool.false_eq_true, if_false]
  | c :: r, run, e, h => by
    have h1 := isC92 c
    unfold isC at h1
    show shM run ((⟨#[c]⟩ : Str) :: _) = _
    unfold shM mF
    by_cases hc : c = 92
    · subst hc
      rw [h1]
      simp only [decide_true, if_true, beq_self_eq_true, Bool.and_true]
      refine congrArg (List.cons 1) (shM_mF r (run + 1) (!e) ?_)
      have h2 : (run + 1).fmod 2 = (run.fmod 2 + 1).fmod 2 := by
        rw [Int.fmod_eq_emod_of_nonneg _ (by decide), Int.fmod_eq_emod_of_nonneg _ (by decide), Int.fmod_eq_emod_of_nonneg _ (by decide)]
        lia
      rw [h2, h]
      cases e <;> decide
    · have hc' : (c == 92) = false := by simpa using hc
      rw [h1, decide_eq_false hc, hc']
      simp only [Bool.false_eq_true, if_false, Bool.and_false, h]
      exact congrArg (List.cons _) (shM_mF r 0 false (by decide))
theorem mF_val (n : Nat) : ∀ (cs : List Nat) (e : Bool), digVal n (mF e cs).reverse + b01 e * 2 ^ (n * (cs.length + 1)) = (2 ^ n + 1) * digVal n (shF e cs).reverse
  | [], e => by
    show (b01 e + 2 ^ n * 0) + b01 e * 2 ^ (n * (0 + 1)) = (2 ^ n + 1) * (b01 e + 2 ^ n * 0)
    rw [Nat.zero_add, Nat.mul_one, Int.mul_zero, Int.add_zero, Int.add_mul, Int.one_mul, Int.mul_comm, Int.add_comm]
  | c :: r, e => by
    have ih := mF_val n r (!e && c == 92)
    have e1 : (mF e (c :: r)) = (if c == 92 then 1 else b01 e) :: mF (!e && c == 92) r := rfl
    have e2 : (shF e (c :: r)) = b01 e :: shF (!e && c == 92) r := rfl
    rw [e1, e2, digVal_front, digVal_front, mF_length, shF_length, List.length_cons, pow_more n (r.length + 1)]
    have hm : (if (c == 92) = true then (1 : Int) else b01 e) = b01 e + b01 (!e && c == 92) := by
      cases e <;> cases (c == 92) <;> decide
    rw [hm]
    generalize b01 (!e && c == 92) = f at *
    generalize b01 e = d at *
    generalize digVal n (mF (!e && c == 92) r).reverse = D at *
    generalize digVal n (shF (!e && c == 92) r).reverse = S at *
    generalize (2 : Int) ^ (n * (r.length + 1)) = U at *
    generalize (2 : Int) ^ n = B at *
    have h1 : (B + 1) * (S + U * d) = (B + 1) * S + (U * B * d + U * d) := by
      rw [Int.mul_add, Int.add_mul B 1 (U * d), Int.one_mul, ← Int.mul_assoc, Int.mul_comm B U]
    have h2 : U * (d + f) = U * d + U * f := Int.mul_add _ _ _
    have h3 : d * (U * B) = U * B * d := Int.mul_comm _ _
    have h4 : f * U = U * f := Int.mul_comm _ _
    rw [h4] at ih
    rw [h1, h2, h3]
    lia
theorem shl_val {wd : Nat} (h6 : 6 ≤ wd) (X : Str) : (digs wd (shM 0 (sgs X ++ [Str.ofString ""])).length ((digVal wd (shM 0 (sgs X ++ [Str.ofString ""])).reverse).fdiv (2 ^ wd + 1))).reverse = shF false X.cps.toList ∧
    (digVal wd (shM 0 (sgs X ++ [Str.ofString ""])).reverse).fmod (2 ^ wd + 1) = 0 := by
  have hms : shM 0 (sgs X ++ [Str.ofString ""]) = mF false X.cps.toList := shM_mF X.cps.toList 0 false (by decide)
  rw [hms]
  have key := mF_val wd X.cps.toList false
  rw [show b01 false = 0 from rfl, Int.zero_mul, Int.add_zero] at key
  have hB : (2 : Int) ^ 6 ≤ 2 ^ wd := pow_mono2 h6
  have hpos : (0 : Int) < 2 ^ wd + 1 := by lia
  have hr : ∀ y ∈ (shF false X.cps.toList).reverse, 0 ≤ y ∧ y < 2 ^ wd := by
    intro y hy
    have := shF_range _ _ y (List.mem_reverse.mp hy)
    lia
  rw [Int.fdiv_eq_ediv_of_nonneg _ (Int.le_of_lt hpos), Int.fmod_eq_emod_of_nonneg _ (Int.le_of_lt hpos), key, Int.mul_emod_right, Int.mul_ediv_cancel_left _ (Int.ne_of_gt hpos)]
  refine ⟨?_, rfl⟩
  have := digs_digVal wd (shF false X.cps.toList).reverse hr
  rw [List.length_reverse, shF_length] at this
  rw [mF_length, this, List.reverse_reverse]
/- the signs in quotes -/
def insP (ks : List Int) : List Int := (preS 0 ks).map fun y => y.fmod 2
theorem preS_snoc : ∀ (ks : List Int) (a z : Int), preS a (ks ++ [z]) = preS a ks ++ [a + ks.sum]
  | [], a, z => by simp [preS]
  | k :: r, a, z => by
    show a :: preS (a + k) (r ++ [z]) = a :: preS (a + k) r ++ _
    rw [preS_snoc r (a + k) z, List.sum_cons, Int.add_assoc]; rfl
theorem insP_snoc (ks : List Int) (z : Int) : insP (ks ++ [z]) = insP ks ++ [ks.sum.fmod 2] := by
  unfold insP
  rw [preS_snoc, List.map_append, Int.zero_add]; rfl
theorem isC34' (c : Nat) : isC c (Str.ofString "\"") = (c == 34) := by rw [isC34]; rfl
theorem ss_val : ∀ (cs : List Nat) (e par : Bool) (p : SS), p.cur.sum.fmod 2 = b01 par →
    ((SS.run p cs (shF e cs)).all.map insP).flatten = (p.all.map insP).flatten ++ inF par e cs
  | [], e, par, p, _ => by simp [SS.run, inF]
  | c :: r, e, par, p, h => by
    have e2 : (shF e (c :: r)) = b01 e :: shF (!e && c == 92) r := rfl
    rw [e2]
    show ((SS.run (p.step c (b01 e)) r (shF (!e && c == 92) r)).all.map insP).flatten = _
    obtain ⟨fin, cur⟩ := p
    have h : cur.sum.fmod 2 = b01 par := h
    by_cases hn : (c == 34 && e) = true
    · have hc : c = 34 ∧ e = true := by simpa using hn
      obtain ⟨rfl, rfl⟩ := hc
      have hst : SS.step ⟨fin, cur⟩ 34 (b01 true) = ⟨fin ++ [cur], [] ++ [1]⟩ := SS.stepA (by decide) (by decide)
      rw [hst, ss_val r _ true _ (show ([] ++ [1] : List Int).sum.fmod 2 = b01 true by decide)]
      simp [SS.all, inF, insP, preS]
    · have hst : SS.step ⟨fin, cur⟩ c (b01 e) = ⟨fin, cur ++ [if c == 34 then 1 else 0]⟩ := by
        unfold SS.step
        rw [isC34']
        have hn' : ((c == 34) && (b01 e != 0)) = false := by
          cases h1 : (c == 34) <;> cases e <;> simp_all [b01]
        rw [hn']
        rfl
      have hn2 : (c == 34 && e) = false := by simpa using hn
      rw [hst, ss_val r _ (if c == 34 then (e || !par) else par) ⟨fin, cur ++ [if c == 34 then 1 else 0]⟩ ?_]
      · show ((fin ++ [cur ++ [_]]).map insP).flatten ++ _ = ((fin ++ [cur]).map insP).flatten ++ inF par e (c :: r)
        rw [List.map_append, List.map_append, List.flatten_append, List.flatten_append, List.append_assoc, List.append_assoc]
        congr 1
        simp only [List.map_cons, List.map_nil, List.flatten_cons, List.flatten_nil, List.append_nil, insP_snoc, h, List.append_assoc]
        congr 1
        show _ = (if (c == 34 && e) = true then 0 else if par = true then 1 else 0) :: inF (if c == 34 then (e || !par) else par) (!e && c == 92) r
        rw [hn2]
        simp [b01]
      · show (cur ++ [_]).sum.fmod 2 = _
        rw [List.sum_append, List.sum_singleton]
        by_cases hc : c = 34
        · subst hc
          have he : e = false := by simpa using hn2
          subst he
          have h2 : (cur.sum + 1).fmod 2 = (cur.sum.fmod 2 + 1).fmod 2 := by
            rw [Int.fmod_eq_emod_of_nonneg _ (by decide), Int.fmod_eq_emod_of_nonneg _ (by decide), Int.fmod_eq_emod_of_nonneg _ (by decide)]
            lia
          show (cur.sum + 1).fmod 2 = b01 (false || !par)
          rw [h2, h]
          cases par <;> decide
        · have hc' : (c == 34) = false := by simpa using hc
          rw [hc']
          simpa using h
theorem ins_val {wd : Nat} (h6 : 6 ≤ wd) (cs : List Nat) (hl : cs.length ≤ 30) : ((SS.run ⟨[], []⟩ cs (shF false cs)).all.map (insOf wd)).flatten = inF false false cs ∧ (SS.run ⟨[], []⟩ cs (shF false cs)).all.all (goodOf wd) = true := by
  obtain ⟨h1, h2⟩ := SS.run_flat cs (shF false cs) ⟨[], []⟩ (fun y hy => by simp [SS.all] at hy)
  have h3 := ss_val cs false false ⟨[], []⟩ (by decide)
  generalize (SS.run ⟨[], []⟩ cs (shF false cs)).all = al at h1 h2 h3
  have h1' : al.flatten.length ≤ 30 := by
    have e : (SS.all ⟨[], []⟩).flatten.length = 0 := by decide
    lia
  have each : ∀ ks ∈ al, (∀ y ∈ ks, 0 ≤ y ∧ y ≤ 1) ∧ ks.length ≤ 40 := by
    intro ks hks
    refine ⟨fun y hy => ?_, ?_⟩
    · have := h2 y (List.mem_flatten.mpr ⟨ks, hks, hy⟩)
      lia
    · have := (List.sublist_flatten_of_mem hks).length_le
      lia
  refine ⟨?_, ?_⟩
  · have e : al.map (insOf wd) = al.map insP := by
      refine List.map_congr_left fun ks hks => ?_
      obtain ⟨a, b⟩ := each ks hks
      show (digs wd ks.length _).reverse.map _ = _
      rw [(sum_div h6 ks a b).1]; rfl
    rw [e, h3]
    simp [SS.all, insP, preS]
  · rw [List.all_eq_true]
    intro ks hks
    obtain ⟨a, b⟩ := each ks hks
    show ((digVal wd ks.reverse).fmod (2 ^ wd + -1) == ks.sum) = true
    rw [(sum_div h6 ks a b).2]
    exact beq_self_eq_true _
/- the items -/
def stN (s : Bool × Bool) (c : Nat) : Bool × Bool := (if c == 34 then (s.2 || !s.1) else s.1, !s.2 && c == 92)
def stF (s : Bool × Bool) (cs : List Nat) : Bool × Bool := cs.foldl stN s
theorem stF_snoc (s : Bool × Bool) (cs : List Nat) (c : Nat) : stF s (cs ++ [c]) = stN (stF s cs) c := by simp [stF]
def inV (s : Bool × Bool) (c : Nat) : Int := if c == 34 && s.2 then 0 else if s.1 then 1 else 0
theorem inF_get : ∀ (cs : List Nat) (p e : Bool) (i c : Nat), cs[i]? = some c → (inF p e cs)[i]? = some (inV (stF (p, e) (cs.take i)) c)
  | [], _, _, i, c, h => by simp at h
  | d :: r, p, e, 0, c, h => by
    have : d = c := by simpa using h
    subst this
    rfl
  | d :: r, p, e, i + 1, c, h => by
    have h' : r[i]? = some c := by simpa using h
    show (inF (if d == 34 then (e || !p) else p) (!e && d == 92) r)[i]? = _
    rw [inF_get r _ _ i c h']
    rfl
theorem shF_get : ∀ (cs : List Nat) (p e : Bool) (i : Nat), i ≤ cs.length → (shF e cs)[i]? = some (b01 (stF (p, e) (cs.take i)).2)
  | [], p, e, i, h => by
    have : i = 0 := by simpa using h
    subst this
    rfl
  | d :: r, p, e, 0, _ => rfl
  | d :: r, p, e, i + 1, h => by
    show (shF (!e && d == 92) r)[i]? = _
    rw [shF_get r (if d == 34 then (e || !p) else p) _ i (by simpa using h)]
    rfl
theorem preS_get : ∀ (ks : List Int) (a : Int) (i : Nat), i < ks.length → (preS a ks)[i]? = some (a + (ks.take i).sum)
  | [], _, i, h => by simp at h
  | k :: r, a, 0, _ => by simp [preS]
  | k :: r, a, i + 1, h => by
    show (preS (a + k) r)[i]? = _
    rw [preS_get r (a + k) i (by simpa using h), List.take_succ_cons, List.sum_cons, Int.add_assoc]
theorem sum_take_snoc (ks : List Int) {i : Nat} {k : Int} (h : ks[i]? = some k) : (ks.take (i + 1)).sum = (ks.take i).sum + k := by
  rw [List.take_add_one, h]
  simp
theorem sum_take_le : ∀ (ks : List Int) (i : Nat), (∀ y ∈ ks, 0 ≤ y) → (ks.take i).sum ≤ ks.sum
  | [], i, _ => by simp
  | k :: r, 0, h => by
    have h1 : ∀ l : List Int, (∀ y ∈ l, 0 ≤ y) → 0 ≤ l.sum := by
      intro l
      induction l with
      | nil => simp
      | cons a l ih => intro h; rw [List.sum_cons]; have := h a (.head _); have := ih fun y hy => h y (.tail _ hy); lia
    simpa using h1 _ h
  | k :: r, i + 1, h => by
    have := sum_take_le r i fun y hy => h y (.tail _ hy)
    rw [List.take_succ_cons, List.sum_cons, List.sum_cons]
    lia
/- one sign, read twice -/
theorem sign_step (P : PS) (s : Bool × Bool) (c : Nat) (hq : P.quo = s.1) (he : P.esc = (s.1 && s.2)) :
    (P.step c).quo = (stN s c).1 ∧ (P.step c).esc = ((stN s c).1 && (stN s c).2) ∧
    (((if c == 44 && inV s c == 0 then (1 : Int) else 0) = 1 ∧ (P.step c).res = P.res ++ [P.part] ∧ (P.step c).part = Str.ofString "") ∨
     ((if c == 44 && inV s c == 0 then (1 : Int) else 0) = 0 ∧ (P.step c).res = P.res ∧ (P.step c).part = if (inV s c != 0 && b01 (stN s c).2 != 0 && isC c (Str.ofString "\\")) then P.part else P.part ++ ⟨#[c]⟩)) := by
  obtain ⟨res, part, esc, quo⟩ := P
  obtain ⟨p, e⟩ := s
  have hq : quo = p := hq
  have he : esc = (p && e) := he
  subst hq he
  have e92 := isC92 c
  have e34 := isC34 c
  have e44 := isC44 c
  by_cases h92 : c = 92
  · subst h92
    cases quo <;> cases e <;> first | exact ⟨rfl, rfl, .inr ⟨rfl, rfl, rfl⟩⟩ | exact ⟨rfl, rfl, .inl ⟨rfl, rfl, rfl⟩⟩ | simp [PS.step, stN, inV, b01, e92, e34, e44]
  · by_cases h34 : c = 34
    · subst h34
      cases quo <;> cases e <;> first | exact ⟨rfl, rfl, .inr ⟨rfl, rfl, rfl⟩⟩ | exact ⟨rfl, rfl, .inl ⟨rfl, rfl, rfl⟩⟩ | simp [PS.step, stN, inV, b01, e92, e34, e44]
    · by_cases h44 : c = 44
      · subst h44
        cases quo <;> cases e <;> first | exact ⟨rfl, rfl, .inr ⟨rfl, rfl, rfl⟩⟩ | exact ⟨rfl, rfl, .inl ⟨rfl, rfl, rfl⟩⟩ | simp [PS.step, stN, inV, b01, e92, e34, e44]
      · cases quo <;> cases e <;> simp [PS.step, stN, inV, b01, e92, e34, e44, h92, h34, h44]
theorem getD_mid (res : List Str) (part : Str) (m : Nat) (d : Str) : (res ++ [part] ++ List.replicate m d).getD res.length d = part := by
  rw [List.append_assoc, List.getD_eq_getElem?_getD, List.getElem?_append_right (Nat.le_refl _), Nat.sub_self]; rfl
theorem set_mid (res : List Str) (part q : Str) (m : Nat) (d : Str) : (res ++ [part] ++ List.replicate m d).set res.length q = res ++ [q] ++ List.replicate m d := by
  rw [List.append_assoc, List.set_append_right _ _ (Nat.le_refl _), Nat.sub_self, List.append_assoc]; rfl
theorem dea_inv (cs : List Nat) (la : Nat) (hla : (la : Int) = (cuF cs (inF false false cs)).sum) : ∀ i, i ≤ cs.length →
    (PS.run PS.start (cs.take i)).quo = (stF (false, false) (cs.take i)).1 ∧ (PS.run PS.start (cs.take i)).esc = ((stF (false, false) (cs.take i)).1 && (stF (false, false) (cs.take i)).2) ∧
    ((cuF cs (inF false false cs)).take i).sum = ((PS.run PS.start (cs.take i)).res.length : Int) ∧
    dlTo la cs (inF false false cs) (shF false cs) (cuF cs (inF false false cs)) (preS 0 (cuF cs (inF false false cs))) i =
      (PS.run PS.start (cs.take i)).res ++ [(PS.run PS.start (cs.take i)).part] ++ List.replicate (la - (PS.run PS.start (cs.take i)).res.length) (Str.ofString "")
  | 0, _ => by
    refine ⟨rfl, rfl, by simp [PS.run, PS.start], ?_⟩
    show List.replicate (la + 1) _ = [] ++ [Str.ofString ""] ++ List.replicate (la - 0) _
    rw [List.nil_append, Nat.sub_zero, List.replicate_succ]; rfl
  | i + 1, hi => by
    obtain ⟨h1, h2, h3, h4⟩ := dea_inv cs la hla i (by lia)
    have hc : cs[i]? = some cs[i] := List.getElem?_eq_getElem (by lia)
    generalize cs[i] = c at hc
    have ht : cs.take (i + 1) = cs.take i ++ [c] := by rw [List.take_add_one, hc]; rfl
    have hrun : PS.run PS.start (cs.take (i + 1)) = (PS.run PS.start (cs.take i)).step c := by
      rw [ht]
      show List.foldl _ _ _ = _
      rw [List.foldl_append]; rfl
    have hst : stF (false, false) (cs.take (i + 1)) = stN (stF (false, false) (cs.take i)) c := by rw [ht, stF_snoc]
    have gin := inF_get cs false false i c hc
    have gsh := shF_get cs false false (i + 1) hi
    have gcu : (cuF cs (inF false false cs))[i]? = some (if c == 44 && inV (stF (false, false) (cs.take i)) c == 0 then (1 : Int) else 0) := cuF_get hc gin rfl
    have hcl : (cuF cs (inF false false cs)).length = cs.length := cuF_length (inF_length _ _ _)
    have gow := preS_get (cuF cs (inF false false cs)) 0 i (by lia)
    have hle := sum_take_le (cuF cs (inF false false cs)) (i + 1) (fun y hy => (cuF_range y hy).1)
    have hsum := sum_take_snoc _ gcu
    rw [hst] at gsh
    obtain ⟨s1, s2, s3⟩ := sign_step (PS.run PS.start (cs.take i)) (stF (false, false) (cs.take i)) c h1 h2
    rw [hrun, hst]
    have hdl : dlTo la cs (inF false false cs) (shF false cs) (cuF cs (inF false false cs)) (preS 0 (cuF cs (inF false false cs))) (i + 1) =
        dlStep (dlTo la cs (inF false false cs) (shF false cs) (cuF cs (inF false false cs)) (preS 0 (cuF cs (inF false false cs))) i) c (inV (stF (false, false) (cs.take i)) c) (b01 (stN (stF (false, false) (cs.take i)) c).2)
          (if c == 44 && inV (stF (false, false) (cs.take i)) c == 0 then (1 : Int) else 0) ((PS.run PS.start (cs.take i)).res.length : Int) := by
      rw [h3, Int.zero_add] at gow
      simp only [dlTo, List.getD_eq_getElem?_getD, hc, gin, gsh, gcu, gow, Option.getD_some]
    refine ⟨s1, s2, ?_, ?_⟩
    · rw [hsum, h3]
      rcases s3 with ⟨k1, r1, _⟩ | ⟨k1, r1, _⟩
      · rw [k1, r1, List.length_append, List.length_singleton]; rfl
      · rw [k1, r1, Int.add_zero]
    · rw [hdl, h4]
      unfold dlStep
      rw [Int.toNat_natCast]
      rcases s3 with ⟨k1, r1, r2⟩ | ⟨k1, r1, r2⟩
      · have hm : (PS.run PS.start (cs.take i)).res.length + 1 ≤ la := by
          rw [hsum, h3, k1, ← hla] at hle
          lia
        rw [k1, r1, r2, if_neg (by simp)]
        rw [List.length_append, List.length_singleton]
        rw [show la - (PS.run PS.start (cs.take i)).res.length = (la - ((PS.run PS.start (cs.take i)).res.length + 1)) + 1 by lia, List.replicate_succ]
        simp only [List.append_assoc, List.cons_append, List.nil_append]
      · rw [k1, r1, r2]
        by_cases hb : (inV (stF (false, false) (cs.take i)) c != 0 && b01 (stN (stF (false, false) (cs.take i)) c).2 != 0 && isC c (Str.ofString "\\")) = true
        · rw [if_pos hb, if_neg (by rw [hb]; simp)]
        · rw [if_neg hb, if_pos (by rw [Bool.not_eq_true] at hb; rw [hb]; rfl), getD_mid, set_mid]
theorem dea_val (cs : List Nat) (la : Nat) (hla : (la : Int) = (cuF cs (inF false false cs)).sum) :
    dlFin (dlTo la cs (inF false false cs) (shF false cs) (cuF cs (inF false false cs)) (preS 0 (cuF cs (inF false false cs))) cs.length) = (PS.run PS.start cs).fin := by
  obtain ⟨_, _, h3, h4⟩ := dea_inv cs la hla cs.length (Nat.le_refl _)
  have hcl : (cuF cs (inF false false cs)).length = cs.length := cuF_length (inF_length _ _ _)
  rw [List.take_of_length_le (Nat.le_of_eq hcl), ← hla, List.take_length] at h3
  rw [List.take_length] at h4
  rw [h4]
  generalize PS.run PS.start cs = P at h3
  have hl : la = P.res.length := by lia
  subst hl
  rw [Nat.sub_self, List.replicate_zero, List.append_nil]
  unfold dlFin PS.fin
  rw [List.length_append, List.length_singleton, Nat.add_sub_cancel]
  have hg := getD_mid P.res P.part 0 (Str.ofString "")
  rw [List.replicate_zero, List.append_nil] at hg
  rw [hg]
  have hz : (P.part == Str.ofString "") = decide (P.part.cps.size = 0) := by
    by_cases h : P.part.cps.size = 0
    · rw [decide_eq_true h]
      have key : ∀ q : Str, q.cps.size = 0 → q = Str.ofString "" := by
        rintro ⟨cps⟩ h'
        have : cps = #[] := Array.eq_empty_of_size_eq_zero h'
        rw [this]; rfl
      rw [key _ h]; exact beq_self_eq_true _
    · rw [decide_eq_false h]
      refine beq_eq_false_iff_ne.mpr fun e => h ?_
      rw [e]; rfl
  rw [hz]
  by_cases h : P.part.cps.size = 0
  · rw [decide_eq_true h, if_pos rfl, if_pos h, List.dropLast_concat]
  · rw [decide_eq_false h, if_neg Bool.false_ne_true, if_neg h]

theorem stockItem {j : Int} (h0 : 0 ≤ j) (h1 : j < 6) : Blk 1 (Txt.item (Str.ofString "a,\"\\ '") j) := by
  have : j = 0 ∨ j = 1 ∨ j = 2 ∨ j = 3 ∨ j = 4 ∨ j = 5 := by lia
  rcases this with rfl | rfl | rfl | rfl | rfl | rfl <;> exact ⟨by decide, by decide⟩
theorem blk_app {a b : Nat} {x y : Str} (hx : Blk a x) (hy : Blk b y) : Blk (a + b) (x ++ y) := by
  refine ⟨?_, ?_⟩
  · show (x.cps ++ y.cps).size = _
    rw [Array.size_append, hx.1, hy.1]
  · show (x.cps ++ y.cps).toList.all _ = _
    rw [Array.toList_append, List.all_append, hx.2, hy.2]; rfl
theorem stockTwo (k : Int) : Blk 2 (Txt.item (Str.ofString "a,\"\\ '") (k.fmod 6) ++ Txt.item (Str.ofString "a,\"\\ '") ((k.fdiv 6).fmod 6)) :=
  blk_app (stockItem (Int.fmod_nonneg_of_pos _ (by decide)) (Int.fmod_lt_of_pos _ (by decide))) (stockItem (Int.fmod_nonneg_of_pos _ (by decide)) (Int.fmod_lt_of_pos _ (by decide)))
set_option maxHeartbeats 8000000
set_option pp.deepTerms.threshold 5
theorem law_holds : PySem.Challenge.rw_pg0162_01.Holds := Mine.hd (by
  k_with_none
  k_with "CJ" => (first | exact cj0 (by with_reducible assumption) | exact cj1 (by with_reducible assumption) | exact cj2 (by with_reducible assumption) | exact cj2z (by with_reducible assumption) | exact cj3 (by with_reducible assumption) | exact cj3z (by with_reducible assumption) | exact cj4 (by with_reducible assumption) | exact cj4z (by with_reducible assumption) | exact cj5 (by with_reducible assumption) | exact cj5z (by with_reducible assumption) | exact cj6 (by with_reducible assumption) | exact cj6z (by with_reducible assumption) | exact cj7 (by with_reducible assumption) | exact cj7z (by with_reducible assumption))
  k_with "NE" => ((refine neN ?_; (try dsimp only); first | walk_at "CJ" | exact Ne.symm (by walk_at "CJ") | exact Nat.ne_of_lt (by walk_at "CJ") | exact Nat.ne_of_gt (by walk_at "CJ") | exact neP (by walk_at "CJ") | exact Ne.symm (neP (by walk_at "CJ")) | exact neQ (by decide) | exact neR (by decide) | exact Ne.symm (neR (by decide)) | lia))
  k_with "MEM" => (k_dflt assumption)
  k_with "ALL" => ((refine' TB.off (by assumption) (by k_asm) (by k_mem) (by first | (((intro _ zh9; (repeat (first | exact zh9 | exact List.mem_append_right _ zh9 | refine' List.Mem.tail _ ?_)))); done) | fail) (by first | ((first | (intro _ zh9; cases zh9; done) | (intro _ zh9; simp_all)); done) | fail)))
  k_with "ALL" => (first | assumption | exact ofAllLt (by assumption) | exact ofAllLt (allLt_left (by assumption)) | (refine' forallApp ?_ ?_ <;> k_all))
  k_with "ROOM" => (first | lia | ((try simp only [depth_under_make, depth_under_kw, depth_in1, depth_deeper, depth_caller, recursionLimit, units_in1, units_deeper, Around.mark_units, units_caller, cLine] at *); (try dsimp only [ktrTop] at *); lia))
  k_with "TAILIN" => ((intro _ zh9; (try simp only [List.nil_append] at zh9); (repeat (first | exact zh9 | refine' List.Mem.tail _ ?_))))
  k_with "SUBL" => (((try simp only [List.cons_append, List.nil_append]); (repeat (refine List.forall_mem_cons.mpr ⟨by k_mem, ?_⟩)); first | exact List.forall_mem_nil _ | walk_at "TAILIN"))
  k_with "CX" => (exact ⟨by k_asm, by k_asm, by k_asm, by k_asm, by first | exact rfl | assumption, by assumption, by assumption⟩)
  k_with "APP" => ((repeat (first | exact App.nil | exact App.gen _ _ | apply App.cons)))
  k_with "DIS" => ((repeat (first | exact Dis.nil | assumption | (refine' Dis.cons ?_ ?_; focus (first | assumption | k_all)))))
  k_with "call ref" => ((k_here; k_dflt (refine' spec_d2i (by first | ((walk_at "CX"); done) | fail) (by k_asm) (by assumption) (by first | ((walk_at "APP"); done) | fail) (by first | ((walk_at "DIS"); done) | fail) (by is_list) (by l_ints) (by lia) (by first | ((walk_at "LEN"); done) | fail) (by assumption) (by first | ((walk_at "ROOM"); done) | fail) (by first | ((walk_at "ROOM"); done) | fail) ?_; intro _ _ _ _ _ _ zN9 _; (try simp only [List.cons_append, List.nil_append] at zN9); (try dsimp only); (try k_fold))))
  k_with "call ref" => ((k_here; k_dflt (refine' spec_i2d (by first | ((walk_at "CX"); done) | fail) (by k_asm) (by assumption) (by first | ((walk_at "APP"); done) | fail) (by first | ((walk_at "DIS"); done) | fail) (by lia) (by lia) (by assumption) _ (by assumption) (by lia) (by assumption) (by first | ((walk_at "ROOM"); done) | fail) (by first | ((walk_at "ROOM"); done) | fail) ?_; intro _ _ _ _ _ _ _ _ _ zN9 zhf9 _; (try simp only [List.cons_append, List.nil_append] at zN9); (replace zhf9 := allNe_of zhf9; try simp only [AllNe, and_true] at zhf9); (try dsimp only); (try k_fold))))
  k_with "call ref" => ((k_here; k_dflt (refine' spec_d2n (by first | ((walk_at "CX"); done) | fail) (by k_asm) (by assumption) (by assumption) (by assumption) (by first | ((walk_at "ROOM"); done) | fail) (by first | ((walk_at "ROOM"); done) | fail) ?_; intro _ _ _ _ _ _ _ zhf9; (replace zhf9 := allNe_of zhf9; simp only [AllNe, and_true] at zhf9); (try dsimp only); (try k_fold))))
  k_with "LEN" => (first | lia | ((try simp only [List.length_reverse, List.length_append, List.length_map, List.length_cons, List.length_nil, digs_length]); lia))
  k_with "call builtin:list.append" => ((k_here; k_dflt ((try dsimp only); refine' append_K (by k_asm) (by k_asm) (by k_upd) ?_ (by first | ((first | size_fits | (rw [sizeLine_eq]; simp only [List.size_toArray]; lia)); done) | fail)); intro _ _ zN9; (try simp only [List.push_toArray] at zN9); (try k_sweep)))
  k_with "OFF1" => ((repeat (first | exact List.forall_mem_nil _ | (refine' List.forall_mem_cons.mpr ⟨?_, ?_⟩; focus k_ne) | assumption | exact ofAllLt (by assumption) | k_all)))
  k_with "OFF" => ((refine' offSwap ?_; (repeat (first | exact List.forall_mem_nil _ | (refine' List.forall_mem_cons.mpr ⟨?_, ?_⟩; focus walk_at "OFF1")))))
  k_with "call builtin:list.reverse" => ((k_here; k_dflt ((try dsimp only); refine' kl_reverseU (by k_asm) (by k_asm) (by k_upd) (by exact rev_arr _) (by exact szl (by assumption)) ?_); intro _ _ _; (try k_sweep)))
  k_with "call ref" => ((k_here; k_dflt (refine' spec_dpos (by first | ((walk_at "CX"); done) | fail) (by k_asm) (by assumption) (by first | ((walk_at "APP"); done) | fail) (by first | ((walk_at "DIS"); done) | fail) (by first | ((first | assumption | lia); done) | fail) (by first | ((first | assumption | lia); done) | fail) (by assumption) (by assumption) (by first | ((walk_at "ROOM"); done) | fail) (by first | ((walk_at "ROOM"); done) | fail) ?_; intro _ _ _ _ _ _ _ _ zN9 zhf9 _; (try simp only [List.cons_append, List.nil_append] at zN9); (replace zhf9 := allNe_of zhf9; try simp only [AllNe, and_true] at zhf9); (try dsimp only); (try k_fold))))
  k_with "call ref" => ((k_here; k_dflt (refine' spec_idm (by first | ((walk_at "CX"); done) | fail) (by k_asm) (by assumption) (by first | ((walk_at "APP"); done) | fail) (by first | ((walk_at "DIS"); done) | fail) (by first | ((first | assumption | lia); done) | fail) (by first | ((first | assumption | lia); done) | fail) (by assumption) (by assumption) (by first | ((walk_at "ROOM"); done) | fail) (by first | ((walk_at "ROOM"); done) | fail) ?_; intro _ _ _ _ _ _ _ _ zN9 zhf9 _; (try simp only [List.cons_append, List.nil_append] at zN9); (replace zhf9 := allNe_of zhf9; try simp only [AllNe, and_true] at zhf9); (try dsimp only); (try k_fold))))
  k_with "call type:list" => ((k_here; k_dflt (refine' list_revK (by exact rfl) (by k_asm) (by k_asm) (by first | ((first | k_all | fail); done) | fail) (by is_list) (by l_ints) (by first | ((walk_at "LEN"); done) | fail) ?_; intro _ _ _ _ _ _ _ _ _; (try k_sweep))))
  k_with "call builtin:len" => ((k_here; k_dflt (refine' len_ints (by is_list) (by l_ints) (by first | ((first | exact digs_length _ _ _ | exact rfl); done) | fail) (by lia) ?_; (try dsimp only))))
  k_with "SUMLEN" => (((try simp only [digs_length, List.length_append, List.length_reverse, List.length_map]); (simp only [sizeLine_eq]); first | lia | (rename_i e2' e3'; simp_all; lia)))
  k_with "binaryOp Add ref ref" => ((k_here; (with_reducible show wpAny _ _ (binaryOp _ (Value.ref _) (Value.ref _)) _ _ _); k_dflt ((try dsimp only); refine' kmk_add_ints (by k_asm) (by k_asm) (by kmk_list) (by kmk_list) (by l_ints) (by l_ints) ?_ (by first | ((first | walk_at "SUMLEN" | fail); done) | fail)); intro _ _ _ _ _ zl1 _; (try k_lt zl1); (try k_sweep)))
  k_with "TAILIN1" => ((repeat (first | assumption | refine' List.Mem.tail _ ?_)))
  k_with "call ref" => ((k_here; k_dflt (refine' spec_div (by first | ((walk_at "CX"); done) | fail) (by k_asm) (by assumption) (by first | ((walk_at "APP"); done) | fail) (by first | ((walk_at "DIS"); done) | fail) (by first | ((first | is_list | exact News.isList (by k_asm) (by walk_at "MEMU")); done) | fail) (by first | ((first | assumption | l_ints); done) | fail) (by assumption) (by first | ((walk_at "LEN"); done) | fail) (by assumption) (by assumption) (by first | ((first | exact .inl rfl | exact .inr rfl); done) | fail) (by first | ((walk_at "ROOM"); done) | fail) (by first | ((walk_at "ROOM"); done) | fail) ?_; intro _ _ _ _ _ _ _ _ _ _ _ zN9 zhr9 zhf9 _ _; (try simp only [List.cons_append, List.nil_append] at zN9); (replace zhr9 := allNe_of zhr9; try simp only [AllNe, and_true] at zhr9); (replace zhf9 := allNe_of zhf9; try simp only [AllNe, and_true] at zhf9); (try dsimp only); (try k_fold))))
  k_with "MEMU" => ((repeat (first | exact List.mem_append_left _ (by assumption) | refine' List.Mem.tail _ ?_)))
  k_with "call type:zip" => ((refine' stopHere ?_))
  k_with "eval ListComp" => ((k_here; first
  | ((with_reducible show wpAny _ _ (eval (Expr.ListComp _ [⟨Expr.Name _ _, _, [], 0⟩] _ _) _) _ _ _); k_dflt (refine LCg.ListComp_U (F₀ := by k_asm) (by with_unfolding_all rfl) (by decide) (by rfl) (by decide) (by rfl) ?_))
  | ((with_reducible show wpAny _ _ (eval (Expr.ListComp _ [⟨Expr.Tuple _ _ _, _, _, 0⟩] _ _) _) _ _ _); refine' stopHere ?_)))
  k_with "exec Assign cons ListComp" => ((k_here; (with_reducible show wpAny _ _ (exec (Stmt.Assign _ (Expr.ListComp _ [⟨Expr.Tuple _ _ _, _, _, 0⟩] _ _) _) _) _ _ _); k_dflt (refine Assign_ListComp_G (by k_asm) (by with_unfolding_all rfl) (by with_unfolding_all rfl) (by decide) (by rfl) (by decide) (by rfl) (by rfl) ?_)))
  k_with "CompSrc" => ((k_here; (with_reducible show LCg.CompSrc _ _ _ _ _ _ _ (Expr.BinOp _ Operator.Add _ _) _ _ _ _ _ _); refine' stopHere ?_))
  k_with "call builtin:str.join" => ((k_here; k_dflt (refine' joinK (by is_list) (by assumption) (by decide) (by assumption) ?_; intro _ _; (try dsimp only))))
  k_with "storeName" => (((with_reducible show wpAny _ _ (storeName _ _ (Value.int ((6 : Int) + _) _)) _ _ _); refine' stopHere ?_))
  k_with "call builtin:sum" => ((k_here; k_dflt (refine' sumK (by exact rfl) (by k_asm) (by k_asm) (by is_list) (by assumption) ?_; intro h7 tk7 t7 F7 N7; (try dsimp only); (try k_sweep); (try rw [hla]))))
  k_with "call ref" => ((refine' stopHere ?_))
  k_with "binaryOp Add str str" => ((k_here; (with_reducible show wpAny _ _ (binaryOp Operator.Add (Value.str _ _) (Value.str (Txt.join _ _) _)) _ _ _); (refine PyProof.Rows.add_str ?_ hz9); intro t9 tk9; rw [hX]))
  k_go0
  (all_goals try k_fold)
  k_steps
  rename_i D1 ws1 z1 hI1 z2 z3 z4 z5 z6 g1 hI8 hL8 Dc z7 z8 o1 z9 oc F0 N0 dc
  refine' Stop.go ?_
  clear hI1 z2 z3 z4 z5 z6
  have hcl : ys.length ≤ 6 := by rw [hL8, List.length_map, List.length_take]; lia
  k_dflt refine LCg.CompSrc.ledger (by rfl) (by k_asm) (by k_asm) (by k_mem) (by rw [sizeLine_eq]; simp only [List.size_toArray]; lia) ?_
  intro g9
  refine comp_map (n := ys.toArray.size) (fun i y => ∃ x t, Blk 2 x ∧ y = Value.str x t) ?hS ?fin ?step _ 0 [] (Nat.zero_add _) rfl (fun j y h => by simp at h)
  case hS => exact .inr ⟨_, by k_mem, rfl, _, rfl⟩
  case step =>
    intro i v I9 oI C9 oC D9 m₂ h8 tk8 E8 ys hP9 hC hx F8 N8 off ne
    obtain ⟨k, t9, hz, rfl⟩ := intsGetK hI8 (by simpa using hP9)
    (try simp only [LCg.Off3, and_true] at off)
    (try dsimp only)
    k_steps
    all_goals first | assumption | exact rfl | exact stockTwo _
  case fin =>
    intro zs hl hr
    obtain ⟨xs, hxs, hxb⟩ : ∃ xs, Txts zs xs ∧ ∀ x ∈ xs, Blk 2 x := by
      have key : ∀ zs : List Value, (∀ (i : Nat) (y : Value), zs[i]? = some y → ∃ x t, Blk 2 x ∧ y = Value.str x t) → ∃ xs, Txts zs xs ∧ ∀ x ∈ xs, Blk 2 x := by
        intro zs
        induction zs with
        | nil => exact fun _ => ⟨[], .nil, fun _ h => nomatch h⟩
        | cons y r ih =>
          intro h
          obtain ⟨x, t, hx, rfl⟩ := h 0 y rfl
          obtain ⟨xs, a, b⟩ := ih fun i y hy => h (i + 1) y (by simpa using hy)
          exact ⟨x :: xs, .cons x t a, List.forall_mem_cons.mpr ⟨hx, b⟩⟩
      exact key zs hr
    have hxl : xs.length ≤ 6 := by rw [← hxs.length, hl, List.size_toArray]; exact hcl
    have hsum := lenSum xs hxb
    have hw9 : (xs.map (·.length)).sum + xs.length ≤ 1048576 := by rw [hsum]; lia
    obtain ⟨wd, hwd, h6, h55⟩ : ∃ wd : Nat, (6 : Int) + Int.fmod (List.sum (List.map (fun k' => Int.fmod k' (10 ^ Int.toNat 6)) (List.take 6 ‹List Int›))) 50 = (wd : Int) ∧ 6 ≤ wd ∧ wd ≤ 55 := by
      generalize (List.sum _ : Int) = S
      have h1 := Int.fmod_nonneg_of_pos S (show (0 : Int) < 50 by decide)
      have h2 := Int.fmod_lt_of_pos S (show (0 : Int) < 50 by decide)
      exact ⟨(6 + S.fmod 50).toNat, by lia, by lia, by lia⟩
    obtain ⟨hf1, hf2⟩ := blk_flat xs hxb
    rw [← join_toList] at hf1 hf2
    rw [Array.length_toList] at hf1
    have hz9 : (Str.ofString "a\\\",\\\",\\\\\" ,").length + (Txt.join (Str.ofString "") xs).length ≤ sizeLine := by
      have e1 : (Str.ofString "a\\\",\\\",\\\\\" ,").length = 12 := by decide
      have e2 : (Txt.join (Str.ofString "") xs).length = 2 * xs.length := hf1
      rw [e1, e2, sizeLine_eq]; lia
    obtain ⟨X, hX⟩ : ∃ X, (Str.ofString "a\\\",\\\",\\\\\" ,") ++ Txt.join (Str.ofString "") xs = X := ⟨_, rfl⟩
    have hXl : X.cps.size ≤ 24 := by
      rw [← hX]
      show (Array.append _ _).size ≤ _
      rw [Array.append_eq_append, Array.size_append, hf1, show (Str.ofString "a\\\",\\\",\\\\\" ,").cps.size = 12 by decide]
      lia
    have hXa : X.cps.all (· < 128) = true := by
      rw [← hX]
      rw [← Array.all_toList]
      show List.all (Array.toList (_ ++ _)) _ = _
      rw [Array.toList_append, List.all_append, hf2, Bool.and_true]
      decide
    unfold LCg.FinE
    intro D8 h8 tk8 F8 N8 o8
    (try simp only [LCg.Off1, and_true] at o8)
    (try dsimp only)
    k_steps
    refine' Stop.go ?_
    rw [hwd]
    rename Fr _ _ _ _ => Fw
    rename News _ _ _ _ => Nw
    have cA : CodeHd _ 46 42 := ‹CodeHd _ (46, 42).fst (46, 42).snd›
    have cB : CodeHd _ 39 35 := ‹CodeHd _ (39, 35).fst (39, 35).snd›
    have N1 := newsSub (l' := [(42, tabObj #[]), (35, tabObj #[])]) Nw (by walk_at "SUBL")
    have htb : TB [(42, tabObj #[]), (35, tabObj #[])] := ⟨#[], #[], [], rfl, .inl rfl, .inl rfl, (fun _ h => nomatch h), fun _ h => nomatch h⟩
    clear Nw hr
    k_steps
    refine' Stop.go ?_
    k_here
    k_dflt refine' spec_shl ?cx ?N ?htb ?hap ?hown ?hms ?hlen ?h6 ?h55 ?hdp ?hun ?_
    case cx => walk_at "CX"
    case N => k_asm
    case htb => exact htb
    case hap => walk_at "APP"
    case hown => walk_at "DIS"
    case hms => exact rfl
    case hlen => lia
    case h6 => exact h6
    case h55 => exact h55
    case hdp => decide
    case hun => decide
    intro rS fS sv epS tS tbS hS tkS hsv htbS FS NS _ _ hneS _
    clear htb
    rw [(shl_val h6 X).1] at hsv
    rw [(shl_val h6 X).2] at NS
    simp only [List.nil_append] at NS
    (try dsimp only)
    (try k_fold)
    k_steps
    refine' Stop.go ?_
    have hsl : (shF false X.cps.toList).length = X.cps.size + 1 := by rw [shF_length, Array.length_toList]
    have hsr : ∀ y ∈ shF false X.cps.toList, 0 ≤ y ∧ y < 2 ^ wd := by
      intro y hy
      have h1 := shF_range _ _ y hy
      have h2 : (2 : Int) ^ 1 ≤ 2 ^ wd := pow_mono2 (by lia)
      exact ⟨h1.1, by lia⟩
    have hXl2 : X.cps.toList.length ≤ 30 := by rw [Array.length_toList]; lia
    k_here
    k_dflt refine' spec_ins (own := [(rS, tupRI fS 0 tS), (fS, W.listOf sv.toArray epS)]) ?cx ?N ?htb ?hap ?hown ?ha ?hlen ?hd ?hi ?hkl ?hks ?h6 ?h55 ?hdp ?hun ?_
    case cx => walk_at "CX"
    case N => k_asm
    case htb => exact htbS
    case hap => walk_at "APP"
    case hown => walk_at "DIS"
    case ha => exact hXa
    case hlen => lia
    case hd => is_list
    case hi => exact hsv
    case hkl => exact hsl
    case hks => exact hsr
    case h6 => exact h6
    case h55 => exact h55
    case hdp => decide
    case hun => decide
    intro rI fI iv epI tbI hI tkI hiv htbI FI NI hrI hfI hneI hdI
    rw [(ins_val h6 X.cps.toList hXl2).1] at hiv
    rw [(ins_val h6 X.cps.toList hXl2).2] at NI
    simp only [List.cons_append, List.nil_append] at NI
    replace hrI := allNe_of hrI
    replace hfI := allNe_of hfI
    simp only [AllNe, and_true] at hrI hfI
    clear htbS
    (try dsimp only)
    (try k_fold)
    k_steps
    refine' Stop.go ?_
    have hivl : iv.length = X.cps.size := by rw [hiv.length, inF_length]; exact Array.length_toList
    k_dflt refine' zipG_comp (x := .txt X t9) (y := .lst fI iv.toArray) (keep := [(fI, W.listOf iv.toArray epI)]) ?hh rfl ?hct ?hcn ?hok ?F ?N ?hkp ?ok ?hn ?hfp ?hsz ?hkd ?hxa ?hxb ?hab
      (fun i ys gr => gr = [] ∧ ys.length = i ∧ ∀ (j : Nat) (y : Value), ys[j]? = some y → ∃ k t, (cuF X.cps.toList (inF false false X.cps.toList))[j]? = some k ∧ y = Value.int k t) ?h0 ?step ?fin
    case hh => exact rfl
    case F => k_asm
    case N => k_asm
    case hkp => exact fun p hp => by rw [List.mem_singleton.mp hp]; exact .tail _ (.head _)
    case hct => kernel_rfl
    case hcn => kernel_rfl
    case hok => intro obj; exact PySem.F.args_object_init_3 obj _ _
    case ok =>
      refine List.forall_mem_cons.mpr ⟨hXa, List.forall_mem_cons.mpr ⟨?_, List.forall_mem_nil _⟩⟩
      k_dflt is_list
    case hn => exact List.forall_mem_cons.mpr ⟨Nat.le_refl _, List.forall_mem_cons.mpr ⟨(by show X.cps.size ≤ Array.size _; simp; lia), List.forall_mem_nil _⟩⟩
    case hfp =>
      refine List.forall_mem_cons.mpr ⟨(fun _ h => nomatch h), List.forall_mem_cons.mpr ⟨?_, List.forall_mem_nil _⟩⟩
      intro b hb
      rw [List.mem_singleton.mp hb]
      exact .inl ⟨_, .head _⟩
    case hsz => rw [sizeLine_eq]; show X.cps.size ≤ _; lia
    case hkd => exact rfl
    case hxa => exact rfl
    case hxb => exact rfl
    case hab => decide
    case h0 => exact ⟨rfl, rfl, fun j y h => by simp at h⟩
    case step =>
      rintro I lI C oC D i cs9 gr m₂ vx vy H tkH E' hi hyl ⟨c, u, hc, rfl⟩ hvy e1 e2 hC ⟨rfl, hcl9, hcs⟩ F9 hCD off9
      obtain ⟨q, tq, hq, rfl⟩ := intsGetK hiv (by simpa [Src.P] using hvy)
      rw [zws2]
      refine AllObj.cons fun z1 hz1 => AllObj.cons fun z2 hz2 => AllObj.cons fun z3 hz3 => AllObj.cons fun z4 hz4 => AllObj.cons fun z5 hz5 => AllObj.nil ?_
      intro hio1 hio2 N9
      simp only [List.cons_append, List.nil_append] at N9
      refine wpAny_tests_nil ?_
      simp only [if_true]
      (try dsimp only)
      (try k_fold)
      k_steps
      all_goals (
        refine ⟨_, _, [], rfl, by k_asm, by (simp only [List.cons_append, List.nil_append]; k_asm), (fun p hp => ⟨hio2 p hp, (off9 p hp).1, (off9 p hp).2⟩), rfl, by (rw [List.length_append, hcl9]; rfl), rel_snoc hcl9 hcs ?_⟩
        refine ⟨_, _, cuF_get (i := i) (c := c) (q := q) (by simpa using hc) hq ?_, rfl⟩
        first | exact cuA (by assumption) (by assumption) | exact cuB (by assumption) | exact cuC (by assumption))
    case fin =>
      intro h'
      rintro D H tkH cv gr FD ND offD ⟨rfl, hcvl, hcv⟩
      have hcv : IntsAre cv (cuF X.cps.toList (inF false false X.cps.toList)) := intsOf (by rw [hcvl, cuF_length (inF_length _ _ _), Array.length_toList]; rfl) hcv
      have hcul : (cuF X.cps.toList (inF false false X.cps.toList)).length = X.cps.size := by rw [cuF_length (inF_length _ _ _), Array.length_toList]
      simp only [List.nil_append] at ND offD
      (try dsimp only)
      (try k_fold)
      k_steps
      refine' Stop.go ?_
      have hc01 : ∀ y ∈ cuF X.cps.toList (inF false false X.cps.toList), 0 ≤ y ∧ y ≤ 1 := cuF_range
      have hcr : ∀ y ∈ cuF X.cps.toList (inF false false X.cps.toList), 0 ≤ y ∧ y < 2 ^ wd := by
        intro y hy
        have h1 := hc01 y hy
        have h2 : (2 : Int) ^ 1 ≤ 2 ^ wd := pow_mono2 (by lia)
        exact ⟨h1.1, by lia⟩
      have hcs := sum_le _ hc01
      obtain ⟨la, hla⟩ : ∃ la : Nat, (cuF X.cps.toList (inF false false X.cps.toList)).sum = (la : Int) := ⟨_, (Int.toNat_of_nonneg hcs.1).symm⟩
      have hla30 : la ≤ 30 := by lia
      k_here
      k_dflt refine' spec_div ?cx ?N ?htb ?hap ?hown ?hd ?hi ?hms ?hlen ?h6 ?h55 ?hmore ?hdp ?hun ?_
      case cx => walk_at "CX"
      case N => k_asm
      case htb => exact htbI
      case hap => walk_at "APP"
      case hown => walk_at "DIS"
      case hd => is_list
      case hi => exact hcv
      case hms => exact hcr
      case hlen => lia
      case h6 => exact h6
      case h55 => exact h55
      case hmore => exact .inr rfl
      case hdp => decide
      case hun => decide
      intro rD fD dv epD tD tbD hD tkD hdv htbD FE NE hrD hfD hneD hdD
      rw [(sum_div h6 _ hc01 (by lia)).1] at hdv
      rw [(sum_div h6 _ hc01 (by lia)).2, hla] at NE
      simp only [List.cons_append, List.nil_append] at NE
      replace hrD := allNe_of hrD
      replace hfD := allNe_of hfD
      simp only [AllNe, and_true] at hrD hfD
      clear htbI
      (try dsimp only)
      (try k_fold)
      iterate 23 (first | walk1 | (dsimp only; walk1))
      · exact absurd (rfl : (la : Int) = la) (by assumption)
      k_steps
      refine' Stop.go ?_
      k_here
      k_dflt refine' spec_phl ?cx ?N ?ha ?hlen ?hdp ?hun ?_
      case cx => walk_at "CX"
      case N => k_asm
      case ha => exact hXa
      case hlen => lia
      case hdp => decide
      case hun => decide
      intro rP vP epP hP tkP htP FP NP hfP
      replace hfP := allNe_of hfP
      simp only [AllNe, and_true] at hfP
      have hl1 : (inF false false X.cps.toList).length = X.cps.size := by rw [inF_length]; exact Array.length_toList
      have hl4 : (preS 0 (cuF X.cps.toList (inF false false X.cps.toList))).length = X.cps.size := by rw [preS_length, hcul]
      have hown : ∀ y ∈ preS 0 (cuF X.cps.toList (inF false false X.cps.toList)), 0 ≤ y ∧ y ≤ (la : Int) := by
        intro y hy
        have := preS_range 0 _ (fun y hy => (hc01 y hy).1) y hy
        rw [hla] at this
        lia
      (try dsimp only)
      (try k_fold)
      k_steps
      refine' Stop.go ?_
      k_here
      k_dflt refine' spec_dea ?cx ?N ?ha ?hlen ?hla ?hd1 ?hi1 ?hl1 ?hd2 ?hi2 ?hl2 ?hd3 ?hi3 ?hl3 ?hd4 ?hi4 ?hl4 ?ho ?hdp ?hun ?_
      case cx => walk_at "CX"
      case N => k_asm
      case ha => exact hXa
      case hlen => lia
      case hla => exact hla30
      case hd1 => is_list
      case hi1 => exact hiv
      case hl1 => exact hl1
      case hd2 => is_list
      case hi2 => exact hsv
      case hl2 => exact hsl
      case hd3 => is_list
      case hi3 => exact hcv
      case hl3 => exact hcul
      case hd4 => is_list
      case hi4 => exact hdv
      case hl4 => exact hl4
      case ho => exact hown
      case hdp => decide
      case hun => decide
      intro rQ vQ epQ hQ tkQ htQ FQ NQ hfQ
      rw [← Array.length_toList (xs := X.cps), dea_val X.cps.toList la hla.symm] at htQ
      replace hfQ := allNe_of hfQ
      simp only [AllNe, and_true] at hfQ
      (try dsimp only)
      (try k_fold)
      k_here
      k_dflt refine' eq_txts ?ha ?hb htP htQ (fin_ok hXa) ?hu ?_
      case ha => is_list
      case hb => is_list
      case hu => walk_at "ROOM"
      (try dsimp only)
      refine ⟨⟨.inl ⟨_, _, [], rfl, ?hr, .bool true, ?hp, ?hu⟩, FQ.keep, rfl, ?hg⟩, ?gr⟩
      case gr =>
        obtain ⟨ps1, ps2, rest, e9, _⟩ := htbD
        subst e9
        exact ⟨GrownAt.of (ps := ps1) NQ (by repeat (first | exact List.Mem.head _ | refine' List.Mem.tail _ ?_)), GrownAt.of (ps := ps2) NQ (by repeat (first | exact List.Mem.head _ | refine' List.Mem.tail _ ?_)), trivial⟩
      case hg => assumption
      case hr => exact fun _ => rfl
      case hp => kernel_rfl
      case hu => exact fun _ => ⟨.nil, fun _ h => nomatch h⟩
  )

end
end Mine

theorem PySem.Challenge.cw_pg0162_01_holds : PySem.Challenge.rw_pg0162_01.Holds :=
  Mine.law_holds
