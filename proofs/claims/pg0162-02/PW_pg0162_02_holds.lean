import PyProof.Rows.All
import Wide.All
import OpenK.AllK
import Wide.FinOn
import PySem.Challenge.RW_pg0162_02
open PySem PySem.W PyProof.Rows PySem.Spec PySem.Calls
set_option Elab.async false
set_option compiler.extract_closed false
namespace Mine
set_option maxRecDepth 100000
set_option maxHeartbeats 8000000
open_top hd for PySem.Challenge.rw_pg0162_02

/- an inequality of addresses that stands in the context, alone or in a conjunction -/
theorem cj0 {X : Prop} (h : X) : X := h
theorem cj1 {X  r : Prop} (h : X ∧ r) : X := h.1
theorem cj2 {X p1 r : Prop} (h : p1 ∧ X ∧ r) : X := h.2.1
theorem cj2z {X p1 : Prop} (h : p1 ∧ X) : X := h.2
theorem cj3 {X p1 p2 r : Prop} (h : p1 ∧ p2 ∧ X ∧ r) : X := h.2.2.1
theorem cj3z {X p1 p2 : Prop} (h : p1 ∧ p2 ∧ X) : X := h.2.2
theorem cj4 {X p1 p2 p3 r : Prop} (h : p1 ∧ p2 ∧ p3 ∧ X ∧ r) : X := h.2.2.2.1
theorem cj4z {X p1 p2 p3 : Prop} (h : p1 ∧ p2 ∧ p3 ∧ X) : X := h.2.2.2
theorem cj5 {X p1 p2 p3 p4 r : Prop} (h : p1 ∧ p2 ∧ p3 ∧ p4 ∧ X ∧ r) : X := h.2.2.2.2.1
theorem cj5z {X p1 p2 p3 p4 : Prop} (h : p1 ∧ p2 ∧ p3 ∧ p4 ∧ X) : X := h.2.2.2.2
theorem cj6 {X p1 p2 p3 p4 p5 r : Prop} (h : p1 ∧ p2 ∧ p3 ∧ p4 ∧ p5 ∧ X ∧ r) : X := h.2.2.2.2.2.1
theorem cj6z {X p1 p2 p3 p4 p5 : Prop} (h : p1 ∧ p2 ∧ p3 ∧ p4 ∧ p5 ∧ X) : X := h.2.2.2.2.2
theorem cj7 {X p1 p2 p3 p4 p5 p6 r : Prop} (h : p1 ∧ p2 ∧ p3 ∧ p4 ∧ p5 ∧ p6 ∧ X ∧ r) : X := h.2.2.2.2.2.2.1
theorem cj7z {X p1 p2 p3 p4 p5 p6 : Prop} (h : p1 ∧ p2 ∧ p3 ∧ p4 ∧ p5 ∧ p6 ∧ X) : X := h.2.2.2.2.2.2
theorem neP {a b k : Nat} (h : @LT.lt Nat _ a b) : @Ne Nat a (b + k) := Nat.ne_of_lt (Nat.lt_of_lt_of_le h (Nat.le_add_right _ _))
theorem neQ {a k l : Nat} (h : k ≠ l) : @Ne Nat (a + k) (a + l) := fun e => h (Nat.add_left_cancel e)
theorem neR {a k : Nat} (h : 0 < k) : @Ne Nat a (a + k) := Nat.ne_of_lt (Nat.lt_add_of_pos_right h)

set_option maxRecDepth 100000
abbrev Led := List (Addr × Obj)

/- two tables of code objects, and the code objects that they name -/
def SlotOk (line : Nat) (qual : Str) (ps : Array Value) (rest : Led) : Prop :=
  ps = #[] ∨ ∃ (c' : Addr) (oc : Obj) (vs : Array Value) (t : Tok), ps = #[rawInt (line : Int), rawInt ((4 : Nat) : Int), .ref c'] ∧ (c', oc) ∈ rest ∧ oc.data = .fields vs ∧ vs[1]? = some (.str qual t)
def qualA : Str := Str.ofString "_digits2int" ++ ".<locals>." ++ Str.ofString "inner"
def qualB : Str := Str.ofString "_int2digits" ++ ".<locals>." ++ Str.ofString "inner"
def TB (t : Led) : Prop := ∃ (ps1 ps2 : Array Value) (rest : Led), t = (37, tabObj ps1) :: (30, tabObj ps2) :: rest ∧ SlotOk 47 qualA ps1 rest ∧ SlotOk 32 qualB ps2 rest ∧
  (∀ p ∈ rest, ∃ vs, p.2.data = .fields vs) ∧ ∀ p ∈ rest, p.1 ≠ 37 ∧ p.1 ≠ 30
theorem SlotOk.more {line : Nat} {qual : Str} {ps : Array Value} {rest : Led} (q : Addr × Obj) (S : SlotOk line qual ps rest) : SlotOk line qual ps (q :: rest) := by
  rcases S with h | ⟨c', oc, vs, t, a, b, c, d⟩
  · exact .inl h
  · exact .inr ⟨c', oc, vs, t, a, .tail _ b, c, d⟩
theorem TB.data {t : Led} (h : TB t) : ∀ p ∈ t, ∃ vs, p.2.data = .fields vs := by
  obtain ⟨ps1, ps2, rest, rfl, _, _, hf, _⟩ := h
  intro p hp
  rcases List.mem_cons.mp hp with rfl | hp
  · exact ⟨ps1, rfl⟩
  rcases List.mem_cons.mp hp with rfl | hp
  · exact ⟨ps2, rfl⟩
  exact hf p hp
theorem TB.off {t news : Led} {h₀ h : Heap} {L a : Addr} {o : Obj} (htb : TB t) (N : News h₀ L h news) (hm : (a, o) ∈ news) (hs : ∀ p ∈ t, p ∈ news) (hd : ∀ vs, o.data ≠ .fields vs) : ∀ p ∈ t, p.1 ≠ a := by
  intro p hp e
  obtain ⟨vs, hv⟩ := htb.data p hp
  have h1 := (N p (hs p hp)).1
  have h2 := (N _ hm).1
  rw [e] at h1
  have h3 : p.2 = o := Option.some.inj (h1.symm.trans h2)
  exact hd vs (h3 ▸ hv)
theorem TB.offAt {t : Led} {h₀ h : Heap} {L a : Addr} {o : Obj} (htb : TB t) (N : News h₀ L h t) (ho : h.get? a = some o) (hd : ∀ vs, o.data ≠ .fields vs) : ∀ p ∈ t, p.1 ≠ a := by
  intro p hp e
  obtain ⟨vs, hv⟩ := htb.data p hp
  have h1 := (N p hp).1
  rw [e] at h1
  have h3 : p.2 = o := Option.some.inj (h1.symm.trans ho)
  exact hd vs (h3 ▸ hv)

/- a ledger that ends in tables -/
inductive App : Led → Led → Led → Prop
  | nil {t : Led} : App t [] t
  | cons {p : Addr × Obj} {l own t : Led} : App l own t → App (p :: l) (p :: own) t
theorem App.eq : ∀ {l own t : Led}, App l own t → l = own ++ t
  | _, _, _, .nil => rfl
  | _, _, _, .cons (p := p) h => by rw [h.eq]; rfl
theorem App.gen : ∀ (own t : Led), App (own ++ t) own t
  | [], _ => .nil
  | _ :: r, t => .cons (App.gen r t)
def Dis (own t : Led) : Prop := ∀ q ∈ own, ∀ r ∈ t, r.1 ≠ q.1
theorem Dis.nil {t : Led} : Dis [] t := fun _ h => nomatch h
theorem Dis.cons {p : Addr × Obj} {own t : Led} (h : ∀ r ∈ t, r.1 ≠ p.1) (r : Dis own t) : Dis (p :: own) t := fun q hq => by
  rcases List.mem_cons.mp hq with rfl | hq
  · exact h
  · exact r q hq

theorem newsSub {h₀ h : Heap} {L : Addr} {l l' : Led} (N : News h₀ L h l) (hs : ∀ p ∈ l', p ∈ l) : News h₀ L h l' := fun p hp => N p (hs p hp)
theorem updApp {d : Addr} {o : Obj} {l : Led} {g : Obj → Led} : ∀ {own : Led}, (∀ p ∈ own, p.1 ≠ d) → UpdF d o l g → UpdF d o (own ++ l) (fun o' => own ++ g o')
  | [], _, U => U
  | _ :: _, h, U => .tail (h _ (.head _)) (updApp (fun p hp => h p (.tail _ hp)) U)

section
variable {M : Model} {A : Around} {E : Value → Shared → Prop} {s : Shared} {h₀ : Heap} {L a c : Addr} {m mg mb : Str → Option Value} {cn : Str} {cs : Scope} {ccd : Value} {cl : List (Str × Addr)}
  {p : Program} {loose : List Str} {mean : ExcName → Option Value} {name qual : Str} {params : Arguments} {body : List Stmt} {scope : Scope} {pos : Pos} {firstLine : Nat} {clos : List (Str × Addr)} {pre t : Led}
theorem nestA {Q : Value → Shared → Prop} (F : Fr h₀ L s.heap m) (N : News h₀ L s.heap (pre ++ t)) (htb : TB t) (hpre : ∀ p ∈ pre, p.1 ≠ 37) (T : Top p loose mean mg mb h₀) (C : CodeHd h₀ c 37) (hcd : ccd = .ref c)
    (hl : pos.line = 47) (hc : pos.col = 4) (hq : qual = qualA) (hcl : closureFor scope (envX cn cs L a ccd cl) = pure clos)
    (h : ∀ f c' oc vs tt ctv doc h' tk t', TB t' → Fr h₀ L h' m → News h₀ L h' ((f, fnMade name qual params body scope clos doc ((mg "__name__").getD .none) c' ctv) :: (pre ++ t')) → (c', oc) ∈ t' → oc.data = .fields vs → vs[1]? = some (.str qual tt) → (∀ q ∈ pre, q.1 < f) → Q (.ref f) { s with heap := h', toks := tk }) :
    wpAny M A (makeFunction name qual params (.stmts body) scope (envX cn cs L a ccd cl) [] [] [] pos firstLine) Q E s := by
  obtain ⟨ps1, ps2, rest, rfl, S1, S2, hf, hne⟩ := htb
  have hP : ∀ p ∈ ((30, tabObj ps2) :: rest : Led), p.1 ≠ 37 := by
    intro p hp
    rcases List.mem_cons.mp hp with rfl | hp
    · show (30 : Nat) ≠ 37; decide
    · exact (hne p hp).1
  rcases S1 with rfl | ⟨c', oc, vs, tt, rfl, hm, hd, hv⟩
  · refine nest_K F N T C hcd (updApp hpre (.head hP)) True.intro rfl hcl fun f c' oc vs tt ctv doc h' tk F' N' hd hv hlt hlt2 => ?_
    refine h f c' oc vs tt ctv doc h' tk ((37, tabObj #[rawInt pos.line, rawInt pos.col, .ref c']) :: (30, tabObj ps2) :: (c', oc) :: rest) ?_ F' ?_ (by simp) hd hv fun q hq => Nat.lt_trans (hlt q (List.mem_append_left _ hq)) hlt2
    · have hA := hlt _ (List.mem_append_right _ (.head _))
      have hB := hlt _ (List.mem_append_right _ (.tail _ (.head _)))
      refine ⟨_, ps2, _, rfl, .inr ⟨c', oc, vs, tt, by rw [hl, hc], .head _, hd, by rw [← hq]; exact hv⟩, S2.more _, ?_, ?_⟩
      · intro p hp
        rcases List.mem_cons.mp hp with rfl | hp
        · exact ⟨vs, hd⟩
        · exact hf p hp
      · intro p hp
        rcases List.mem_cons.mp hp with rfl | hp
        · exact ⟨Nat.ne_of_gt hA, Nat.ne_of_gt hB⟩
        · exact hne p hp
    · refine newsSub N' fun q hq => ?_
      simp only [List.mem_cons, List.mem_append] at hq ⊢
      rcases hq with h | h | h | h | h | h <;> simp_all
  · refine nestHit_K (c' := c') F N T C hcd (List.mem_append_right _ (.head _)) (by simp [TriplesOk, rawInt]) (by simp [codeAmong, rawInt, hl, hc]) hcl fun f ctv doc h' tk F' N' hlt => ?_
    exact h f c' oc vs tt ctv doc h' tk _ ⟨_, ps2, rest, rfl, .inr ⟨c', oc, vs, tt, rfl, hm, hd, hv⟩, S2, hf, hne⟩ F' N' (.tail _ (.tail _ hm)) hd (by rw [hq]; exact hv) fun q hq => hlt q (List.mem_append_left _ hq)
theorem nestB {Q : Value → Shared → Prop} (F : Fr h₀ L s.heap m) (N : News h₀ L s.heap (pre ++ t)) (htb : TB t) (hpre : ∀ p ∈ pre, p.1 ≠ 30) (T : Top p loose mean mg mb h₀) (C : CodeHd h₀ c 30) (hcd : ccd = .ref c)
    (hl : pos.line = 32) (hc : pos.col = 4) (hq : qual = qualB) (hcl : closureFor scope (envX cn cs L a ccd cl) = pure clos)
    (h : ∀ f c' oc vs tt ctv doc h' tk t', TB t' → Fr h₀ L h' m → News h₀ L h' ((f, fnMade name qual params body scope clos doc ((mg "__name__").getD .none) c' ctv) :: (pre ++ t')) → (c', oc) ∈ t' → oc.data = .fields vs → vs[1]? = some (.str qual tt) → (∀ q ∈ pre, q.1 < f) → Q (.ref f) { s with heap := h', toks := tk }) :
    wpAny M A (makeFunction name qual params (.stmts body) scope (envX cn cs L a ccd cl) [] [] [] pos firstLine) Q E s := by
  obtain ⟨ps1, ps2, rest, rfl, S1, S2, hf, hne⟩ := htb
  have hP : ∀ p ∈ (rest : Led), p.1 ≠ 30 := fun p hp => (hne p hp).2
  rcases S2 with rfl | ⟨c', oc, vs, tt, rfl, hm, hd, hv⟩
  · refine nest_K F N T C hcd (updApp hpre (.tail (show (37 : Nat) ≠ 30 by decide) (.head hP))) True.intro rfl hcl fun f c' oc vs tt ctv doc h' tk F' N' hd hv hlt hlt2 => ?_
    refine h f c' oc vs tt ctv doc h' tk ((37, tabObj ps1) :: (30, tabObj #[rawInt pos.line, rawInt pos.col, .ref c']) :: (c', oc) :: rest) ?_ F' ?_ (by simp) hd hv fun q hq => Nat.lt_trans (hlt q (List.mem_append_left _ hq)) hlt2
    · have hA := hlt _ (List.mem_append_right _ (.head _))
      have hB := hlt _ (List.mem_append_right _ (.tail _ (.head _)))
      refine ⟨ps1, _, _, rfl, S1.more _, .inr ⟨c', oc, vs, tt, by rw [hl, hc], .head _, hd, by rw [← hq]; exact hv⟩, ?_, ?_⟩
      · intro p hp
        rcases List.mem_cons.mp hp with rfl | hp
        · exact ⟨vs, hd⟩
        · exact hf p hp
      · intro p hp
        rcases List.mem_cons.mp hp with rfl | hp
        · exact ⟨Nat.ne_of_gt hA, Nat.ne_of_gt hB⟩
        · exact hne p hp
    · refine newsSub N' fun q hq => ?_
      simp only [List.mem_cons, List.mem_append] at hq ⊢
      rcases hq with h | h | h | h | h | h <;> simp_all
  · refine nestHit_K (c' := c') F N T C hcd (List.mem_append_right _ (.tail _ (.head _))) (by simp [TriplesOk, rawInt]) (by simp [codeAmong, rawInt, hl, hc]) hcl fun f ctv doc h' tk F' N' hlt => ?_
    exact h f c' oc vs tt ctv doc h' tk _ ⟨ps1, _, rest, rfl, S1, .inr ⟨c', oc, vs, tt, rfl, hm, hd, hv⟩, hf, hne⟩ F' N' (.tail _ (.tail _ hm)) hd (by rw [hq]; exact hv) fun q hq => hlt q (List.mem_append_left _ hq)
end

/- hide the goal while a chain is taken apart: each level would copy it -/
theorem hide {C : Prop} (h : ∀ Z : Prop, (C → Z) → Z) : C := h C id
theorem holdQ {α : Type} {M : Model} {A : Around} {t : Sem α} {Q : α → Shared → Prop} {E : Value → Shared → Prop} {s : Shared} (h : ∀ Q' : α → Shared → Prop, (∀ v s', Q v s' → Q' v s') → wpAny M A t Q' E s) : wpAny M A t Q E s := h Q fun _ _ h => h
theorem holdT {α β : Type} {M : Model} {A : Around} {t : Sem α} {u : Sem β} {Q : β → Shared → Prop} {E E' : Value → Shared → Prop} {s : Shared} (h : ∀ Q' : β → Shared → Prop, (∀ v s', Q v s' → Q' v s') → wpAny M A t (fun _ s₂ => wpAny M A u Q' E' s₂) E s) : wpAny M A t (fun _ s₂ => wpAny M A u Q E' s₂) E s := h Q fun _ _ h => h
/- the end of a body: what it hands back, what it has made, the tables -/
def Ret (TP : Led → Prop) (g : Heap) (L' : Addr) (s₀ : Shared) (W : Value → Led → Prop) (v : Value) (s' : Shared) : Prop :=
  ∃ h' tk m' new t', s' = { s₀ with heap := h', toks := tk } ∧ TP t' ∧ Fr g L' h' m' ∧ News g L' h' (new ++ t') ∧ W v new
theorem Ret.intro {TP : Led → Prop} {g : Heap} {L' : Addr} {s₀ : Shared} {W : Value → Led → Prop} {v : Value} {h' : Heap} {tk : Nat} {m' : Str → Option Value} {news t' : Led} (new : Led) (htb : TP t') (F : Fr g L' h' m') (N : News g L' h' news) (hs : ∀ p ∈ new ++ t', p ∈ news) (w : W v new) :
    Ret TP g L' s₀ W v { s₀ with heap := h', toks := tk } := ⟨h', tk, m', new, t', rfl, htb, F, newsSub N hs, w⟩
def GotBack (TP : Led → Prop) (h₀ : Heap) (L : Addr) (m : Str → Option Value) (own : Led) (s : Shared) (W : Value → Led → Prop) (Q : Value → Shared → Prop) : Prop :=
  ∀ v new t' h' tk', TP t' → W v new → Fr h₀ L h' m → News h₀ L h' (new ++ (own ++ t')) → (∀ p ∈ own, ∀ q ∈ new, p.1 ≠ q.1) → Dis own t' → Q v { s with heap := h', toks := tk' }
abbrev NoT : Led → Prop := fun t => t = []

section
variable {TP : Led → Prop} {prog : Program} {w : World} {A A₀ : Around} {s : Shared} {K : Frag} {L : Addr} {h₀ base : Heap} {m mg mb : Str → Option Value} {own t : Led} {p : Program} {loose : List Str} {mean : ExcName → Option Value}
  {env : Env} {outer : List Env} {Q E : Value → Shared → Prop} {W : Value → Led → Prop} {name qual : Str} {params : Arguments} {body : List Stmt} {scope : Scope} {cl : List (Str × Addr)} {dV kV doc pm cdv ct oc : Value} {an od : Option Addr} {osl : Array (Option Value)} {fo : Obj} {f : Addr} {args : List Value} {binds : List (Str × Value)}
theorem leaveM {g : Heap} {L' : Addr} {v : Value} {s' : Shared} (N : News h₀ L s.heap (own ++ t)) (FG : Fr h₀ L g m) (st : h₀.StaysIn g) (hk : ∀ b o, s.heap.get? b = some o → (∀ q ∈ t, q.1 ≠ b) → g.get? b = some o) (hown : Dis own t)
    (hret : GotBack TP h₀ L m own s W Q) (R : Ret TP g L' s W v s') : Q v s' := by
  obtain ⟨h', tk, m', new, t', rfl, htb', F', N', hw⟩ := R
  have keep : ∀ q ∈ own, g.get? q.1 = some q.2 := fun q hq => hk _ _ (N q (List.mem_append_left _ hq)).1 (hown q hq)
  have hLg : ∃ o, g.get? L = some o := let ⟨o, _, _, e, _⟩ := FG.ns; ⟨o, e⟩
  refine hret v new t' h' tk htb' hw (FG.keeps F'.keep) ?_ ?_ ?_
  · intro q hq
    have aux : ∀ q ∈ new ++ t', h'.get? q.1 = some q.2 ∧ q.1 ≠ L ∧ h₀.get? q.1 = none := fun q hq => by
      refine ⟨(N' q hq).1, fun e => ?_, ?_⟩
      · obtain ⟨o, ho⟩ := hLg
        have := (N' q hq).2.2
        rw [e, ho] at this; cases this
      · cases z : h₀.get? q.1 with
        | none => rfl
        | some o => have := (N' q hq).2.2; rw [st _ _ z] at this; cases this
    rcases List.mem_append.mp hq with h | h
    · exact aux q (List.mem_append_left _ h)
    rcases List.mem_append.mp h with h | h
    · exact ⟨F'.keep _ _ (keep q h), (N q (List.mem_append_left _ h)).2⟩
    · exact aux q (List.mem_append_right _ h)
  · intro q hq r hr e
    have := (N' r (List.mem_append_left _ hr)).2.2
    rw [← e, keep q hq] at this; cases this
  · intro q hq r hr e
    have := (N' r (List.mem_append_right _ hr)).2.2
    rw [e, keep q hq] at this; cases this

theorem enterP (B : Below A₀ base outer h₀) (F : Fr h₀ L s.heap m) (X₀ : K.In h₀) (T : Top p loose mean mg mb h₀) (N : News h₀ L s.heap (own ++ t)) (hown : Dis own t)
    (hA : A.frames = some (env :: outer)) (hf : env.frame = some L) (hke : env.scope.kind = .function)
    (ho : K.lookup f = some fo) (hd : fo.data = .func (fnX name qual params body scope cl dV kV doc pm an cdv ct)) (hcd : codeIn K cdv qual = true) (hroom : A.depth < recursionLimit)
    (hbind : BindsTo s (fnX name qual params body scope cl dV kV doc pm an cdv ct) ⟨args, []⟩ binds) (hloc : ∀ y ∈ binds, scope.names.lookup y.1 = some .local)
    (hret : GotBack TP h₀ L m own s W Q)
    (h : ∀ g L' h₁, (∀ b o, s.heap.get? b = some o → (∀ q ∈ t, q.1 ≠ b) → g.get? b = some o) → Fr g L' h₁ (fun y => binds.reverse.lookup y) → News g L' h₁ t → Below A base (env :: outer) g → K.In g → Top p loose mean mg mb g → (∀ q ∈ t, q.1 < L') →
      wpAny (model prog w) (A.deeper (envX qual scope L' f cdv cl)) (execs body (envX qual scope L' f cdv cl)) (fun fl s' => Ret TP g L' s W (match fl with | .ret v => v | _ => .none) s') (fun _ _ => False) { s with heap := h₁, toks := s.toks + binds.length })
    (hcell : ∀ x ∈ scope.names, x.2 ≠ .cell) (hco : scope.isCoroutine = false) (hgen : scope.isGenerator = false) (hk : scope.kind = .function) :
    wpAny (model prog w) A (call (.ref f) args) Q E s := by
  have Nt : News h₀ L s.heap t := newsSub N fun q hq => List.mem_append_right _ hq
  obtain ⟨FG, BG, st, _⟩ := groundX (R := fun _ _ => True) B F Nt hA hf hke
  have hkg : ∀ b o, s.heap.get? b = some o → (∀ q ∈ t, q.1 ≠ b) → (hideAll s.heap (t.map (·.1))).get? b = some o := fun b o e n => hideAll_get _ e fun hm => by
    obtain ⟨q, hq, e'⟩ := List.mem_map.mp hm
    exact n q hq e'
  refine wpAny_call ?_
  refine codeAny_call_def (fd := fnX name qual params body scope cl dV kV doc pm an cdv ct) (body := body) (binds := binds) hroom ((X₀.keeps F.keep) _ _ ho) hd (T.nolimit.keeps F.keep) (codeRec_of (X₀.keeps F.keep) hcd) rfl hbind hcell hloc (fun h₁ hns hk₁ => ?_) hco hgen hk
  refine wpAny_mono (h _ s.heap.objs.size h₁ hkg ⟨hns, fun b o e => hk₁ b o (of_hideAll _ e), Nat.le_of_eq (hideAll_size _ _)⟩
    (fun q hq => ⟨hk₁ _ _ (Nt q hq).1, Nat.ne_of_lt (Heap.lt_size (Nt q hq).1), hideAll_none _ (List.mem_map_of_mem hq)⟩) BG (X₀.keeps st) (T.keeps st) (fun q hq => Heap.lt_size (Nt q hq).1)) (fun fl s' hl => ?_) fun _ _ y => y.elim
  exact leaveM N FG st hkg hown hret hl

theorem enterC (B : Below A₀ base outer h₀) (F : Fr h₀ L s.heap m) (X₀ : K.In h₀) (T : Top p loose mean mg mb h₀) (N : News h₀ L s.heap (own ++ t)) (hown : Dis own t)
    (hA : A.frames = some (env :: outer)) (hf : env.frame = some L) (hke : env.scope.kind = .function)
    (ho : K.lookup f = some fo) (hd : fo.data = .func (fnX name qual params body scope [] dV kV doc pm an cdv ct)) (hcd : codeIn K cdv qual = true) (hroom : A.depth < recursionLimit)
    (hbind : BindsTo s (fnX name qual params body scope [] dV kV doc pm an cdv ct) ⟨args, []⟩ binds)
    (hkind : (binds.all fun y => scope.names.lookup y.1 == some .local || scope.names.lookup y.1 == some .cell) = true) (hnd : ((cellsFrom 0 scope.names []).map (·.1)).Nodup)
    (hret : GotBack TP h₀ L m own s W Q)
    (h : ∀ g L' h₁ tk cells, (∀ b o, s.heap.get? b = some o → (∀ q ∈ t, q.1 ≠ b) → g.get? b = some o) → Fr g L' h₁ (bindL (envOfC qual scope L' f cdv).kindOf binds fun _ => none) → News g L' h₁ (cells ++ t) →
      CellsAre (bindC (envOfC qual scope L' f cdv).kindOf binds fun _ => none) (cellsFrom (L' + 1) scope.names []) cells → Below A base (env :: outer) g → K.In g → Top p loose mean mg mb g → (∀ q ∈ t, q.1 < L') →
      wpAny (model prog w) (A.deeper (envOfC qual scope L' f cdv)) (execs body (envOfC qual scope L' f cdv)) (fun fl s' => Ret TP g L' s W (match fl with | .ret v => v | _ => .none) s') (fun _ _ => False) { s with heap := h₁, toks := tk })
    (hco : scope.isCoroutine = false) (hgen : scope.isGenerator = false) (hk : scope.kind = .function) :
    wpAny (model prog w) A (call (.ref f) args) Q E s := by
  have Nt : News h₀ L s.heap t := newsSub N fun q hq => List.mem_append_right _ hq
  obtain ⟨FG, BG, st, _⟩ := groundX (R := fun _ _ => True) B F Nt hA hf hke
  have hkg : ∀ b o, s.heap.get? b = some o → (∀ q ∈ t, q.1 ≠ b) → (hideAll s.heap (t.map (·.1))).get? b = some o := fun b o e n => hideAll_get _ e fun hm => by
    obtain ⟨q, hq, e'⟩ := List.mem_map.mp hm
    exact n q hq e'
  refine wpAny_call ?_
  refine codeAny_call_function hroom ((X₀.keeps F.keep) _ _ ho) hd hco hgen rfl (codeRec_of (X₀.keeps F.keep) hcd) (hbind _ _ _ _ ?_)
  refine wpAny_newFunctionEnv_cells hk (kindsX hkind _) fun env' he s' x => ?_
  subst he
  refine ⟨(T.nolimit.keeps F.keep).keeps x.toInCall.keep, codeAny_func ?_⟩
  obtain ⟨h₁, tk, rfl, _⟩ := x.done
  have hk₁ := x.toInCall.keep
  obtain ⟨cells, NC, Y⟩ := Cl.news (h₀ := s.heap) (Nat.le_refl _) fun n c hm => ⟨x.cell n c (lookup_of_mem_nodup (cellsFrom_names scope.names 0 (s.heap.objs.size + 1) [] [] rfl ▸ hnd) hm), x.above n c hm⟩
  refine wpAny_mono (h _ s.heap.objs.size h₁ tk cells hkg ⟨x.toInCall.ns, fun b o e => hk₁ b o (of_hideAll _ e), Nat.le_of_eq (hideAll_size _ _)⟩ (fun q hq => ?_) Y BG (X₀.keeps st) (T.keeps st) (fun q hq => Heap.lt_size (Nt q hq).1)) (fun fl s' hl => ?_) fun _ _ y => y.elim
  · rcases List.mem_append.mp hq with hq | hq
    · refine ⟨(NC q hq).1, (NC q hq).2.1, ?_⟩
      cases z : (hideAll s.heap (t.map (·.1))).get? q.1 with
      | none => rfl
      | some o => have := of_hideAll _ z; rw [(NC q hq).2.2] at this; cases this
    · exact ⟨hk₁ _ _ (Nt q hq).1, Nat.ne_of_lt (Heap.lt_size (Nt q hq).1), hideAll_none _ (List.mem_map_of_mem hq)⟩
  · exact leaveM N FG st hkg hown hret hl
end

theorem listIn {t : Led} {h₀ h g : Heap} {L l : Addr} {vs : Array Value} (htb : TB t) (N : News h₀ L h t) (hk : ∀ b o, h.get? b = some o → (∀ q ∈ t, q.1 ≠ b) → g.get? b = some o) (hl : h.IsList l vs) : g.IsList l vs := by
  obtain ⟨o, ho, hc, n, hd⟩ := hl
  exact ⟨o, hk _ _ ho (htb.offAt N ho fun _ e => by rw [hd] at e; cases e), hc, n, hd⟩
theorem listIn0 {h g : Heap} {l : Addr} {vs : Array Value} (hk : ∀ b o, h.get? b = some o → (∀ q ∈ ([] : Led), q.1 ≠ b) → g.get? b = some o) (hl : h.IsList l vs) : g.IsList l vs := by
  obtain ⟨o, ho, hc, n, hd⟩ := hl
  exact ⟨o, hk _ _ ho (fun _ h => nomatch h), hc, n, hd⟩

def digVal (n : Nat) : List Int → Int
  | [] => 0
  | d :: r => d + 2 ^ n * digVal n r
theorem digVal_append (n : Nat) : ∀ (xs ys : List Int), digVal n (xs ++ ys) = digVal n xs + 2 ^ (n * xs.length) * digVal n ys
  | [], ys => by simp [digVal]
  | x :: r, ys => by
    simp only [List.cons_append, digVal, digVal_append n r ys, List.length_cons]
    rw [Nat.mul_succ, Int.pow_add, Int.mul_add, Int.add_assoc, Int.mul_comm (2 ^ (n * r.length)) (2 ^ n), Int.mul_assoc]
def seg (ds : List Int) (l r : Nat) : List Int := (ds.drop l).take (r - l)
theorem seg_length {ds : List Int} {l r : Nat} (h : r ≤ ds.length) : (seg ds l r).length = r - l := by simp [seg]; lia
theorem seg_split (ds : List Int) {l k r : Nat} (h1 : l ≤ k) (h2 : k ≤ r) : seg ds l r = seg ds l k ++ seg ds k r := by
  unfold seg
  have e : r - l = (k - l) + (r - k) := by lia
  rw [e, List.take_add, List.drop_drop]
  congr 3
  lia
theorem seg_one (ds : List Int) {l : Nat} (h : l < ds.length) : seg ds l (l + 1) = [ds.getD l 0] := by
  unfold seg
  rw [List.drop_eq_getElem_cons h]
  have e : l + 1 - l = 1 := by lia
  rw [e, List.take_succ_cons, List.take_zero, List.getD_eq_getElem?_getD, List.getElem?_eq_getElem h]
  rfl
theorem seg_all (ds : List Int) : seg ds 0 ds.length = ds := by simp [seg]
theorem mem_seg {ds : List Int} {l r : Nat} {x : Int} (h : x ∈ seg ds l r) : x ∈ ds := List.mem_of_mem_drop (List.mem_of_mem_take h)
theorem digVal_bound (n : Nat) : ∀ (ds : List Int), (∀ x ∈ ds, 0 ≤ x ∧ x < 2 ^ n) → 0 ≤ digVal n ds ∧ digVal n ds < 2 ^ (n * ds.length)
  | [], _ => by simp [digVal]
  | d :: r, h => by
    have h1 := h d (.head _)
    have h2 := digVal_bound n r fun x hx => h x (.tail _ hx)
    have hp : (0 : Int) < 2 ^ n := Int.pow_pos (by decide)
    refine ⟨?_, ?_⟩
    · have := Int.mul_nonneg (Int.le_of_lt hp) h2.1
      show 0 ≤ d + 2 ^ n * digVal n r
      lia
    · show d + 2 ^ n * digVal n r < 2 ^ (n * (r.length + 1))
      have h3 : (2 : Int) ^ (n * (r.length + 1)) = 2 ^ n * 2 ^ (n * r.length) := by rw [Nat.mul_succ, Int.pow_add, Int.mul_comm]
      have h4 : 2 ^ n * (digVal n r + 1) ≤ (2 : Int) ^ n * 2 ^ (n * r.length) := Int.mul_le_mul_of_nonneg_left (by lia) (Int.le_of_lt hp)
      rw [Int.mul_add, Int.mul_one] at h4
      lia
theorem mid_facts (i j : Int) : 2 * (i + j).fdiv (2 ^ (1 : Int).toNat) ≤ i + j ∧ i + j < 2 * (i + j).fdiv (2 ^ (1 : Int).toNat) + 2 := by
  have e : (2 : Int) ^ (1 : Int).toNat = 2 := rfl
  rw [e, Int.fdiv_eq_ediv_of_nonneg _ (by decide)]
  lia
theorem bits_le {a : Int} {b : Nat} (h0 : 0 ≤ a) (h : a < 2 ^ b) : Builtin.Int.intBits a ≤ b := by
  unfold Builtin.Int.intBits
  by_cases e : a = 0
  · simp [e]
  · rw [if_neg (by simpa using e)]
    have hn : a.natAbs ≠ 0 := by lia
    have : a.natAbs < 2 ^ b := by
      have h1 : ((a.natAbs : Nat) : Int) < ((2 ^ b : Nat) : Int) := by
        rw [Int.natAbs_of_nonneg h0]
        simpa using h
      exact Int.ofNat_lt.mp h1
    have := (Nat.log2_lt hn).mpr this
    lia
theorem seg_bits {ds : List Int} {nn l r : Nat} {n : Int} (hds : ∀ x ∈ ds, 0 ≤ x ∧ x < 2 ^ nn) (hn : nn ≤ 64) (hl : ds.length ≤ 64) (h : n ≤ 4096) : (Builtin.Int.intBits (digVal nn (seg ds l r)) : Int) + n ≤ 2 ^ 27 := by
  have hb := digVal_bound nn (seg ds l r) fun x hx => hds x (mem_seg hx)
  have h2 : (seg ds l r).length ≤ 64 := by
    have : (seg ds l r).length ≤ (ds.drop l).length := by unfold seg; rw [List.length_take]; lia
    rw [List.length_drop] at this
    lia
  have h3 : nn * (seg ds l r).length ≤ 64 * 64 := Nat.mul_le_mul hn h2
  have h1 := bits_le hb.1 hb.2
  lia
theorem seg_join {ds : List Int} {nn : Nat} {i x j : Int} (h0 : 0 ≤ i) (h1 : i ≤ x) (h2 : x ≤ j) (h3 : j ≤ (ds.length : Int)) :
    digVal nn (seg ds x.toNat j.toNat) * 2 ^ ((x - i) * (nn : Int)).toNat + digVal nn (seg ds i.toNat x.toNat) = digVal nn (seg ds i.toNat j.toNat) := by
  have e1 : i.toNat ≤ x.toNat := by lia
  have e2 : x.toNat ≤ j.toNat := by lia
  rw [seg_split ds e1 e2, digVal_append, seg_length (by lia)]
  have e3 : ((x - i) * (nn : Int)).toNat = nn * (x.toNat - i.toNat) := by
    have : (x - i) * (nn : Int) = ((nn * (x.toNat - i.toNat) : Nat) : Int) := by
      rw [Int.natCast_mul, Int.mul_comm]
      congr 1
      lia
    rw [this, Int.toNat_natCast]
  rw [e3, Int.mul_comm (2 ^ _), Int.add_comm]
theorem seg_single {ds : List Int} {nn : Nat} {i j : Int} (h0 : 0 ≤ i) (h1 : i + 1 = j) (h3 : j ≤ (ds.length : Int)) : ds.getD i.toNat 0 = digVal nn (seg ds i.toNat j.toNat) := by
  have e : j.toNat = i.toNat + 1 := by lia
  rw [e, seg_one ds (by lia)]
  simp [digVal]
theorem mul_small {x n : Int} (h0 : 0 ≤ x) (h1 : x ≤ 64) (h2 : 0 ≤ n) (h3 : n ≤ 64) : 0 ≤ x * n ∧ x * n ≤ 4096 := by
  refine ⟨Int.mul_nonneg h0 h2, ?_⟩
  have : x * n ≤ 64 * 64 := Int.mul_le_mul h1 h3 h2 (by decide)
  lia
def digs (n : Nat) : Nat → Int → List Int
  | 0, _ => []
  | k + 1, x => x % 2 ^ n :: digs n k (x / 2 ^ n)
theorem digs_length (n : Nat) : ∀ (k : Nat) (x : Int), (digs n k x).length = k
  | 0, _ => rfl
  | k + 1, x => by simp [digs, digs_length n k]
theorem pow_pos2 (n : Nat) : (0 : Int) < 2 ^ n := Int.pow_pos (by decide)
theorem digs_add (n k : Nat) : ∀ (j : Nat) (x : Int), digs n (j + k) x = digs n j (x % 2 ^ (n * j)) ++ digs n k (x / 2 ^ (n * j))
  | 0, x => by simp [digs]
  | j + 1, x => by
    have e : j + 1 + k = (j + k) + 1 := by lia
    rw [e]
    show x % 2 ^ n :: digs n (j + k) (x / 2 ^ n) = (x % 2 ^ (n * (j + 1))) % 2 ^ n :: digs n j (x % 2 ^ (n * (j + 1)) / 2 ^ n) ++ _
    rw [digs_add n k j (x / 2 ^ n), List.cons_append]
    have hp : (2 : Int) ^ (n * (j + 1)) = 2 ^ n * 2 ^ (n * j) := by rw [Nat.mul_succ, Int.pow_add, Int.mul_comm]
    have e1 : (x % 2 ^ (n * (j + 1))) % 2 ^ n = x % 2 ^ n := by rw [hp, Int.emod_emod_of_dvd _ (Int.dvd_mul_right _ _)]
    have e2 : x % 2 ^ (n * (j + 1)) / 2 ^ n = x / 2 ^ n % 2 ^ (n * j) := by
      rw [hp, Int.emod_def x, Int.emod_def (x / 2 ^ n), Int.ediv_ediv_of_nonneg (Int.le_of_lt (pow_pos2 n))]
      rw [Int.mul_assoc, Int.sub_eq_add_neg, ← Int.mul_neg, Int.add_mul_ediv_left _ _ (Int.ne_of_gt (pow_pos2 n))]
      rfl
    have e3 : x / 2 ^ n / 2 ^ (n * j) = x / 2 ^ (n * (j + 1)) := by rw [hp, Int.ediv_ediv_of_nonneg (Int.le_of_lt (pow_pos2 n))]
    rw [e1, e2, e3]
theorem digs_one {n : Nat} {x : Int} (h0 : 0 ≤ x) (h1 : x < 2 ^ n) : digs n 1 x = [x] := by
  simp [digs, Int.emod_eq_of_lt h0 h1]
theorem digVal_digs (n : Nat) : ∀ (k : Nat) (x : Int), 0 ≤ x → x < 2 ^ (n * k) → digVal n (digs n k x) = x
  | 0, x, h0, h1 => by
    simp at h1
    show (0 : Int) = x
    lia
  | k + 1, x, h0, h1 => by
    have hp : (2 : Int) ^ (n * (k + 1)) = 2 ^ n * 2 ^ (n * k) := by rw [Nat.mul_succ, Int.pow_add, Int.mul_comm]
    have h2 : x / 2 ^ n < 2 ^ (n * k) := by
      rw [hp] at h1
      exact Int.ediv_lt_of_lt_mul (pow_pos2 n) (by rw [Int.mul_comm]; exact h1)
    show x % 2 ^ n + 2 ^ n * digVal n (digs n k (x / 2 ^ n)) = x
    rw [digVal_digs n k _ (Int.ediv_nonneg h0 (Int.le_of_lt (pow_pos2 n))) h2]
    exact Int.emod_add_mul_ediv x (2 ^ n)
theorem digs_range (n : Nat) : ∀ (k : Nat) (x : Int), ∀ y ∈ digs n k x, 0 ≤ y ∧ y < 2 ^ n
  | 0, _, y, h => nomatch h
  | k + 1, x, y, h => by
    rcases List.mem_cons.mp h with rfl | h
    · exact ⟨Int.emod_nonneg _ (Int.ne_of_gt (pow_pos2 n)), Int.emod_lt_of_pos _ (pow_pos2 n)⟩
    · exact digs_range n k _ y h
def putSeg (ds : List Int) (l : Nat) (xs : List Int) : List Int := ds.take l ++ xs ++ ds.drop (l + xs.length)
theorem putSeg_length {ds xs : List Int} {l : Nat} (h : l + xs.length ≤ ds.length) : (putSeg ds l xs).length = ds.length := by
  simp [putSeg]; lia
theorem putSeg_two {ds xs ys : List Int} {l l' : Nat} (h : l + xs.length + ys.length ≤ ds.length) (e : l' = l + xs.length) : putSeg (putSeg ds l xs) l' ys = putSeg ds l (xs ++ ys) := by
  subst e
  have h1 : (ds.take l ++ xs).length = l + xs.length := by simp; lia
  unfold putSeg
  rw [List.take_left' h1, List.drop_append, h1]
  have h2 : (ds.take l ++ xs).drop (l + xs.length + ys.length) = [] := List.drop_of_length_le (by rw [h1]; lia)
  rw [h2, List.nil_append, List.drop_drop, List.length_append]
  have h3 : l + xs.length + (l + xs.length + ys.length - (l + xs.length)) = l + (xs.length + ys.length) := by lia
  rw [h3]
  simp only [List.append_assoc]
theorem set_putSeg {ds : List Int} {l : Nat} {x : Int} (h : l < ds.length) : ds.set l x = putSeg ds l [x] := by
  rw [List.set_eq_take_append_cons_drop, if_pos h]
  simp [putSeg]
theorem and_high (x s : Nat) : x &&& (x >>> s) <<< s = (x >>> s) <<< s := by
  apply Nat.eq_of_testBit_eq
  intro i
  simp only [Nat.testBit_and, Nat.testBit_shiftLeft, Nat.testBit_shiftRight]
  by_cases h : s ≤ i
  · have e : s + (i - s) = i := by lia
    rw [e]; simp [h]
  · simp [h]
theorem xor_low {x : Int} (h0 : 0 ≤ x) (s : Nat) : Builtin.bitXor x (x.fdiv (2 ^ s) * 2 ^ s) = x % 2 ^ s := by
  obtain ⟨n, rfl⟩ := Int.eq_ofNat_of_zero_le h0
  have hp := pow_pos2 s
  rw [Int.fdiv_eq_ediv_of_nonneg _ (Int.le_of_lt hp)]
  have e1 : ((n : Int) / 2 ^ s * 2 ^ s) = (((n >>> s) <<< s : Nat) : Int) := by
    rw [Nat.shiftLeft_eq, Nat.shiftRight_eq_div_pow]
    simp
  rw [PyProof.Rows.bitXor_and, e1]
  have e2 : Builtin.bitAnd (n : Int) (((n >>> s) <<< s : Nat) : Int) = (((n >>> s) <<< s : Nat) : Int) := by
    have g1 : decide ((0 : Int) ≤ (n : Int)) = true := by simp
    have g2 : decide ((0 : Int) ≤ (((n >>> s) <<< s : Nat) : Int)) = true := decide_eq_true (Int.natCast_nonneg _)
    unfold Builtin.bitAnd
    rw [g1, g2]
    show (((n : Int).toNat &&& (((n >>> s) <<< s : Nat) : Int).toNat : Nat) : Int) = _
    rw [Int.toNat_natCast, Int.toNat_natCast, and_high]
  rw [e2, ← e1, Int.emod_def, Int.mul_comm ((n : Int) / 2 ^ s)]
  lia
/- the step of _int2digits -/
structure StepI (nn : Nat) (i j x X sh up lo : Int) : Prop where
  hX0 : i ≤ X
  hX1 : X ≤ j
  sh0 : 0 ≤ sh
  up0 : 0 ≤ up
  up1 : up < 2 ^ (nn * (j - X).toNat)
  lo0 : 0 ≤ lo
  lo1 : lo < 2 ^ (nn * (X - i).toNat)
  bits : (Builtin.Int.intBits up : Int) + sh ≤ 2 ^ 27
  join : digs nn (X - i).toNat lo ++ digs nn (j - X).toNat up = digs nn (j - i).toNat x
theorem stepI {nn : Nat} {i j x : Int} (hn : nn ≤ 64) (h0 : 0 ≤ i) (h1 : i < j) (h2 : j ≤ 64) (hx : 0 ≤ x) (hx1 : x < 2 ^ (nn * (j - i).toNat)) :
    StepI nn i j x ((i + j).fdiv (2 ^ (1 : Int).toNat)) (((i + j).fdiv (2 ^ (1 : Int).toNat) - i) * (nn : Int)) (x.fdiv (2 ^ (((i + j).fdiv (2 ^ (1 : Int).toNat) - i) * (nn : Int)).toNat))
      (Builtin.bitXor x (x.fdiv (2 ^ (((i + j).fdiv (2 ^ (1 : Int).toNat) - i) * (nn : Int)).toNat) * 2 ^ (((i + j).fdiv (2 ^ (1 : Int).toNat) - i) * (nn : Int)).toNat)) := by
  have hm := mid_facts i j
  generalize (i + j).fdiv (2 ^ (1 : Int).toNat) = X at hm
  have hX0 : i ≤ X := by lia
  have hX1 : X ≤ j := by lia
  have hsm := mul_small (x := X - i) (n := (nn : Int)) (by lia) (by lia) (by lia) (by lia)
  have e3 : ((X - i) * (nn : Int)).toNat = nn * (X - i).toNat := by
    have : (X - i) * (nn : Int) = ((nn * (X - i).toNat : Nat) : Int) := by
      rw [Int.natCast_mul, Int.mul_comm]
      congr 1
      lia
    rw [this, Int.toNat_natCast]
  rw [xor_low hx]
  rw [e3, Int.fdiv_eq_ediv_of_nonneg _ (Int.le_of_lt (pow_pos2 _))]
  have hs : (j - i).toNat = (X - i).toNat + (j - X).toNat := by lia
  have hp : (2 : Int) ^ (nn * (j - i).toNat) = 2 ^ (nn * (X - i).toNat) * 2 ^ (nn * (j - X).toNat) := by rw [hs, Nat.mul_add, Int.pow_add]
  have hu1 : x / 2 ^ (nn * (X - i).toNat) < 2 ^ (nn * (j - X).toNat) := by
    rw [hp] at hx1
    exact Int.ediv_lt_of_lt_mul (pow_pos2 _) (by rw [Int.mul_comm]; exact hx1)
  have hu0 : 0 ≤ x / 2 ^ (nn * (X - i).toNat) := Int.ediv_nonneg hx (Int.le_of_lt (pow_pos2 _))
  refine ⟨hX0, hX1, hsm.1, hu0, hu1, Int.emod_nonneg _ (Int.ne_of_gt (pow_pos2 _)), Int.emod_lt_of_pos _ (pow_pos2 _), ?_, ?_⟩
  · have hb := bits_le hu0 hu1
    have hk : nn * (j - X).toNat ≤ 64 * 64 := Nat.mul_le_mul hn (by lia)
    lia
  · rw [hs, digs_add nn (j - X).toNat (X - i).toNat x]
theorem putSeg_join {ds : List Int} {nn : Nat} {i j x X sh up lo : Int} (S : StepI nn i j x X sh up lo) (h0 : 0 ≤ i) (h1 : i < j) (h2 : j ≤ (ds.length : Int)) :
    putSeg (putSeg ds i.toNat (digs nn (X - i).toNat lo)) X.toNat (digs nn (j - X).toNat up) = putSeg ds i.toNat (digs nn (j - i).toNat x) := by
  have a := S.hX0
  have b := S.hX1
  rw [putSeg_two (by simp only [digs_length]; lia) (by simp only [digs_length]; lia), S.join]
theorem putSeg_single {ds : List Int} {nn : Nat} {i j x : Int} (h0 : 0 ≤ i) (h1 : i + 1 = j) (h2 : j ≤ (ds.length : Int)) (hx : 0 ≤ x) (hx1 : x < 2 ^ (nn * (j - i).toNat)) :
    ds.set i.toNat x = putSeg ds i.toNat (digs nn (j - i).toNat x) := by
  have e : (j - i).toNat = 1 := by lia
  rw [e] at hx1 ⊢
  rw [Nat.mul_one] at hx1
  rw [digs_one hx hx1, set_putSeg (by lia)]
theorem digs_zero (n : Nat) : ∀ k : Nat, digs n k 0 = List.replicate k 0
  | 0 => rfl
  | k + 1 => by simp [digs, digs_zero n k, List.replicate_succ]
theorem putSeg_whole {n k : Nat} {x : Int} : putSeg (List.replicate k 0) (0 : Int).toNat (digs n ((k : Int) - 0).toNat x) = digs n k x := by
  have e : ((k : Int) - 0).toNat = k := by lia
  rw [e]
  simp [putSeg, digs_length]
theorem few_digs {n k : Nat} {x : Int} (hx : 0 ≤ x) (h : x < 2 ^ (n * k)) (h0 : x ≠ 0) : 1 ≤ k := by
  rcases k with _ | k
  · simp at h; lia
  · lia
open PyProof in
theorem noPy {x b : Int} (h0 : 0 < b) (h : b < 2 ^ 64) : Builtin.divisionGoesByPylong x b = false := by
  refine noPylong_of_log2 ?_
  have hn : b.natAbs ≠ 0 := by lia
  have : b.natAbs < 2 ^ 64 := by lia
  have := (Nat.log2_lt hn).mpr this
  lia
/- long division, digit by digit -/
structure DivInv (nn : Nat) (b V r : Int) (qs : List Int) (len : Nat) : Prop where
  v0 : 0 ≤ V
  hr : r = V % b
  hq : digVal nn qs.reverse = V / b
  rng : ∀ q ∈ qs, 0 ≤ q ∧ q < 2 ^ nn
  hl : qs.length = len
theorem DivInv.start (nn : Nat) (b : Int) : DivInv nn b 0 0 [] 0 := ⟨Int.le_refl _, by simp, by simp [digVal], (fun _ h => nomatch h), rfl⟩
theorem DivInv.rbound {nn : Nat} {b V r : Int} {qs : List Int} {len : Nat} (I : DivInv nn b V r qs len) (hb : 0 < b) : 0 ≤ r ∧ r < b := by
  rw [I.hr]; exact ⟨Int.emod_nonneg _ (Int.ne_of_gt hb), Int.emod_lt_of_pos _ hb⟩
theorem DivInv.cur {nn : Nat} {b V r d : Int} {qs : List Int} {len : Nat} (I : DivInv nn b V r qs len) (hb : 0 < b) (hd : 0 ≤ d ∧ d < 2 ^ nn) : 0 ≤ r * 2 ^ nn + d ∧ r * 2 ^ nn + d < b * 2 ^ nn := by
  have h := I.rbound hb
  have hp := pow_pos2 nn
  have h1 := Int.mul_nonneg h.1 (Int.le_of_lt hp)
  have h2 : (r + 1) * 2 ^ nn ≤ b * 2 ^ nn := Int.mul_le_mul_of_nonneg_right (by lia) (Int.le_of_lt hp)
  rw [Int.add_mul, Int.one_mul] at h2
  lia
theorem DivInv.step {nn : Nat} {b V r d : Int} {qs : List Int} {len : Nat} (I : DivInv nn b V r qs len) (hb : 0 < b) (hd : 0 ≤ d ∧ d < 2 ^ nn) :
    DivInv nn b (V * 2 ^ nn + d) ((r * 2 ^ nn + d).fmod b) (qs ++ [(r * 2 ^ nn + d).fdiv b]) (len + 1) := by
  have hc := I.cur hb hd
  have hp := pow_pos2 nn
  rw [Int.fmod_eq_emod_of_nonneg _ (Int.le_of_lt hb), Int.fdiv_eq_ediv_of_nonneg _ (Int.le_of_lt hb)]
  have hV : V * 2 ^ nn + d = (r * 2 ^ nn + d) + b * (V / b * 2 ^ nn) := by
    have e : V = b * (V / b) + V % b := (Int.mul_ediv_add_emod V b).symm
    rw [← I.hr] at e
    calc V * 2 ^ nn + d = (b * (V / b) + r) * 2 ^ nn + d := by rw [← e]
      _ = _ := by rw [Int.add_mul, Int.mul_assoc]; lia
  refine ⟨?_, ?_, ?_, ?_, ?_⟩
  · have := Int.mul_nonneg I.v0 (Int.le_of_lt hp); lia
  · rw [hV, Int.add_mul_emod_self_left]
  · rw [List.reverse_append]
    show digVal nn (_ :: qs.reverse) = _
    rw [digVal, I.hq, hV, Int.add_mul_ediv_left _ _ (Int.ne_of_gt hb), Int.mul_comm (2 ^ nn)]
  · intro q hq
    rcases List.mem_append.mp hq with h | h
    · exact I.rng q h
    · rw [List.mem_singleton.mp h]
      exact ⟨Int.ediv_nonneg hc.1 (Int.le_of_lt hb), Int.ediv_lt_of_lt_mul hb (Int.mul_comm b (2 ^ nn) ▸ hc.2)⟩
  · rw [List.length_append, I.hl]; rfl
def big (nn : Nat) (V : Int) (l : List Int) : Int := l.foldl (fun v d => v * 2 ^ nn + d) V
theorem big_reverse (nn : Nat) : ∀ ds : List Int, big nn 0 ds.reverse = digVal nn ds
  | [] => rfl
  | d :: r => by
    have ih := big_reverse nn r
    unfold big at ih ⊢
    rw [List.reverse_cons, List.foldl_append, ih]
    show digVal nn r * 2 ^ nn + d = d + 2 ^ nn * digVal nn r
    rw [Int.mul_comm]; lia
theorem pow_mono2 {a b : Nat} (h : a ≤ b) : (2 : Int) ^ a ≤ 2 ^ b := by
  have := Nat.pow_le_pow_right (n := 2) (by decide) h
  exact_mod_cast this
theorem lt_bits {x : Int} (h : 0 ≤ x) : x < 2 ^ Builtin.Int.intBits x := by
  unfold Builtin.Int.intBits
  by_cases e : x = 0
  · simp [e]
  · rw [if_neg (by simpa using e)]
    have h1 : x.natAbs < 2 ^ (x.natAbs.log2 + 1) := Nat.lt_log2_self
    have h2 : ((x.natAbs : Nat) : Int) < ((2 ^ (x.natAbs.log2 + 1) : Nat) : Int) := Int.ofNat_lt.mpr h1
    rw [Int.natAbs_of_nonneg h] at h2
    simpa using h2
theorem bits_pos {x : Int} (h : 0 < x) : 1 ≤ Builtin.Int.intBits x := by
  unfold Builtin.Int.intBits
  rw [if_neg (by simp; lia)]
  lia
theorem cur_bits {nn : Nat} {b y : Int} (hy : 0 ≤ y) (h : y < b * 2 ^ nn) (hb : 0 < b) (hnn : nn = Builtin.Int.intBits b) (hn : nn ≤ 64) : (Builtin.Int.intBits y : Int) - (nn : Int) ≤ 4000 := by
  have h1 := lt_bits (Int.le_of_lt hb)
  rw [← hnn] at h1
  have h2 : b * 2 ^ nn ≤ 2 ^ nn * 2 ^ nn := Int.mul_le_mul_of_nonneg_right (Int.le_of_lt h1) (Int.le_of_lt (pow_pos2 nn))
  rw [← Int.pow_add] at h2
  have := bits_le hy (Int.lt_of_lt_of_le h h2)
  lia
theorem digs_count {x : Int} {nn : Nat} (hx : 0 ≤ x) (hn1 : 1 ≤ nn) (hb : Builtin.Int.intBits x ≤ 62 * nn) :
    ∃ k : Nat, k ≤ 63 ∧ ((Builtin.Int.intBits x : Int) + (nn : Int) - 1).fdiv (nn : Int) = (k : Int) ∧ x < 2 ^ (nn * k) := by
  have hnn : (0 : Int) < (nn : Int) := by lia
  rw [Int.fdiv_eq_ediv_of_nonneg _ (Int.le_of_lt hnn)]
  have h0 : 0 ≤ ((Builtin.Int.intBits x : Int) + (nn : Int) - 1) / (nn : Int) := Int.ediv_nonneg (by lia) (Int.le_of_lt hnn)
  refine ⟨(((Builtin.Int.intBits x : Int) + (nn : Int) - 1) / (nn : Int)).toNat, ?_, (Int.toNat_of_nonneg h0).symm, ?_⟩
  · have : ((Builtin.Int.intBits x : Int) + (nn : Int) - 1) / (nn : Int) < 64 := Int.ediv_lt_of_lt_mul hnn (by lia)
    lia
  · refine Int.lt_of_lt_of_le (lt_bits hx) ?_
    have h1 : (Builtin.Int.intBits x : Int) + (nn : Int) - 1 < (((Builtin.Int.intBits x : Int) + (nn : Int) - 1) / (nn : Int) + 1) * (nn : Int) := Int.lt_ediv_add_one_mul_self _ hnn
    have h2 : Builtin.Int.intBits x ≤ nn * (((Builtin.Int.intBits x : Int) + (nn : Int) - 1) / (nn : Int)).toNat := by
      have h3 : ((nn * (((Builtin.Int.intBits x : Int) + (nn : Int) - 1) / (nn : Int)).toNat : Nat) : Int) = (nn : Int) * (((Builtin.Int.intBits x : Int) + (nn : Int) - 1) / (nn : Int)) := by
        rw [Int.natCast_mul, Int.toNat_of_nonneg h0]
      rw [Int.add_mul, Int.one_mul, Int.mul_comm] at h1
      lia
    exact pow_mono2 h2
theorem ints_rev {vs : List Value} {ns : List Int} (h : IntsAre vs ns) : IntsAre vs.reverse ns.reverse := by
  induction h with
  | nil => exact .nil
  | cons i t _ ih =>
    rw [List.reverse_cons, List.reverse_cons]
    exact ih.append (.cons _ _ .nil)
theorem small_bits {a n : Int} (h0 : 0 ≤ a) (h : a < 2 ^ 64) (hn : n ≤ 4096) : (Builtin.Int.intBits a : Int) + n ≤ 2 ^ 27 := by
  have := bits_le h0 h
  lia
theorem big_cons (nn : Nat) (V d : Int) (ls : List Int) : big nn V (d :: ls) = big nn (V * 2 ^ nn + d) ls := rfl
theorem rev_arr (l : List Value) : l.toArray.toList.reverse = l.reverse := rfl
theorem szl {l : List Value} (h : l.length ≤ 64) : l.toArray.toList.length ≤ sizeLine := by
  show l.length ≤ sizeLine
  rw [sizeLine_eq]; lia

theorem offSwap {xs ys : Led} (h : ∀ q ∈ ys, ∀ p ∈ xs, p.1 ≠ q.1) : ∀ p ∈ xs, ∀ q ∈ ys, p.1 ≠ q.1 := fun p hp q hq => h q hq p hp
theorem ofAllLt {d : Addr} : ∀ {l : Led}, AllLt d l → ∀ p ∈ l, p.1 ≠ d
  | [], _, _, h => nomatch h
  | _ :: _, x, p, h => by
    rcases List.mem_cons.mp h with rfl | h
    · exact Nat.ne_of_lt x.1
    · exact ofAllLt x.2 p h
def AllNe (d : Nat) : Led → Prop
  | [] => True
  | p :: r => @Ne Nat p.1 d ∧ AllNe d r
theorem allNe_of {d : Addr} : ∀ {l : Led}, (∀ p ∈ l, p.1 ≠ d) → AllNe d l
  | [], _ => trivial
  | p :: _, h => ⟨h p (.head _), allNe_of fun q hq => h q (.tail _ hq)⟩
def TurnP (h₀ : Heap) (L : Addr) (s₁ : Shared) (its : Led) (rest : (Str → Option Value) → Led → Prop) (Q : Flow → Shared → Prop) (f : Flow) (s₂ : Shared) : Prop := UnrPostW h₀ L s₁ its rest Q f s₂
section
variable {h₀ : Heap} {L : Addr} {s₁ : Shared} {its : Led} {rest : (Str → Option Value) → Led → Prop} {Q : Flow → Shared → Prop} {h' : Heap} {tk : Nat} {m' : Str → Option Value} {all : Led}
theorem TurnP.next (F : Fr h₀ L h' m') (N : News h₀ L h' all) (news' : Led) (hs : ∀ p ∈ its ++ news', p ∈ all) (off : ∀ p ∈ news', ∀ q ∈ its, p.1 ≠ q.1) (r : rest m' news') : TurnP h₀ L s₁ its rest Q .next { s₁ with heap := h', toks := tk } :=
  (⟨h', tk, m', news', rfl, F, newsSub N hs, off, r⟩ : UnrEndW h₀ L s₁ its rest _)
theorem TurnP.cont (F : Fr h₀ L h' m') (N : News h₀ L h' all) (news' : Led) (hs : ∀ p ∈ its ++ news', p ∈ all) (off : ∀ p ∈ news', ∀ q ∈ its, p.1 ≠ q.1) (r : rest m' news') : TurnP h₀ L s₁ its rest Q .cont { s₁ with heap := h', toks := tk } :=
  (⟨h', tk, m', news', rfl, F, newsSub N hs, off, r⟩ : UnrEndW h₀ L s₁ its rest _)
end
theorem allObj_mono : ∀ {ws : List (Addr × String)} {k k' : Led → Prop}, (∀ its, k its → k' its) → AllObj ws k → AllObj ws k'
  | [], _, _, h, x => h _ x
  | _ :: _, _, _, h, x => fun o ho => allObj_mono (fun its hi => h _ hi) (x o ho)
/- what the frame's names hold between the turns -/
def Held (m₀ : Str → Option Value) (stored : List Str) (ps : List (Str × Value)) (m : Str → Option Value) : Prop :=
  (∀ p ∈ ps, m p.1 = some p.2) ∧ ∀ z, (∀ p ∈ ps, z ≠ p.1) → stored.contains z = false → m z = m₀ z
theorem Held.fr {h₀ h : Heap} {L : Addr} {m₀ m : Str → Option Value} {stored : List Str} {ps : List (Str × Value)} (H : Held m₀ stored ps m) (F : Fr h₀ L h m) : Fr h₀ L h (kstB (fun z => if stored.contains z then m z else m₀ z) ps) := by
  have em : kstB (fun z => if stored.contains z then m z else m₀ z) ps = m := by
    funext y
    refine kstB_eq H.1 fun hn => ?_
    show (if stored.contains y = true then m y else m₀ y) = m y
    cases h3 : stored.contains y with
    | true => simp
    | false => simp only [Bool.false_eq_true, if_false]; exact (H.2 y hn h3).symm
  rw [em]; exact F
theorem notIn {stored : List Str} {z : Str} (h : stored.contains z = false) : ∀ x ∈ stored, z ≠ x := fun x hx e => by
  subst e
  rw [List.contains_iff_mem.mpr hx] at h
  cases h
section
variable {prog : Program} {w : World} {A : Around} {E : Value → Shared → Prop} {s : Shared} {env : Env} {h₀ : Heap} {target : Expr} {body : List Stmt} {Q : Flow → Shared → Prop}
theorem rest_ind {ws : List (Addr × String)} {keep : Led} (J : List Itm → (Str → Option Value) → Led → Prop)
    (step : ∀ a r m news, J (a :: r) m news → ∀ v h tk, a.Is v h → Fr h₀ env.locals h m → AllObj ws (fun its => News h₀ env.locals h (its ++ news) →
      wpAny (model prog w) A (assign target env v) (fun _ s₂ => wpAny (model prog w) A (execs body env) (TurnP h₀ env.locals { s with heap := h, toks := tk } its (fun m' n' => SubL keep n' ∧ J r m' n') Q) E s₂) E { s with heap := h, toks := tk }))
    (done : ∀ m news, J [] m news → ∀ h tk, Fr h₀ env.locals h m → News h₀ env.locals h news → Q .next { s with heap := h, toks := tk }) :
    ∀ xs m news, J xs m news → ItemsRest prog w A E h₀ env target body Q s ws keep xs m news
  | [], m, news, h => fun H tk F N => done m news h H tk F N
  | a :: r, m, news, h => fun v H tk hv F => by
    have IH := rest_ind J step done r
    have st := step a r m news h v H tk hv F
    clear step
    revert st
    generalize hk1 : (fun its : Led => News h₀ env.locals H (its ++ news) → wpAny (model prog w) A (assign target env v) (fun _ s₂ => wpAny (model prog w) A (execs body env) (TurnP h₀ env.locals { s with heap := H, toks := tk } its (fun m' n' => SubL keep n' ∧ J r m' n') Q) E s₂) E { s with heap := H, toks := tk }) = k1
    intro st
    refine allObj_mono (fun its hi => ?_) st
    rw [← hk1] at hi
    intro N
    refine wpAny_mono (hi N) (fun _ s₂ h₂ => wpAny_mono h₂ (fun f s₃ p => ?_) fun _ _ e => e) fun _ _ e => e
    have up : ∀ s₃, UnrEndW h₀ env.locals { s with heap := H, toks := tk } its (fun m' n' => SubL keep n' ∧ J r m' n') s₃ → UnrEndW h₀ env.locals { s with heap := H, toks := tk } its (fun m' n' => SubL keep n' ∧ ItemsRest prog w A E h₀ env target body Q s ws keep r m' n') s₃ := by
      rintro s₃ ⟨h', tk', m', news', e, F', N', ho, hk, hJ⟩
      exact ⟨h', tk', m', news', e, F', N', ho, hk, IH m' news' hJ⟩
    cases f with
    | ret v => exact p
    | brk => exact p
    | next => exact up _ p
    | cont => exact up _ p
theorem rest_indM {ws : List (Addr × String)} {keep : Led} {m₀ : Str → Option Value} {xs₀ : List Itm} {news₀ : Led} (J : (Str → Option Value) → List Itm → (Str → Option Value) → Led → Prop)
    (step : ∀ a r m news, J m₀ (a :: r) m news → ∀ v h tk, a.Is v h → Fr h₀ env.locals h m → AllObj ws (fun its => News h₀ env.locals h (its ++ news) →
      wpAny (model prog w) A (assign target env v) (fun _ s₂ => wpAny (model prog w) A (execs body env) (TurnP h₀ env.locals { s with heap := h, toks := tk } its (fun m' n' => SubL keep n' ∧ J m₀ r m' n') Q) E s₂) E { s with heap := h, toks := tk }))
    (done : ∀ m news, J m₀ [] m news → ∀ h tk, Fr h₀ env.locals h m → News h₀ env.locals h news → Q .next { s with heap := h, toks := tk })
    (start : J m₀ xs₀ m₀ news₀) : ItemsRest prog w A E h₀ env target body Q s ws keep xs₀ m₀ news₀ := rest_ind (J m₀) step done _ _ _ start
theorem iter_revTurns {ax I : Addr} {lo : Obj} {vs : List Value} {n : Nat} {m₀ : Str → Option Value} {news : Led} {x : Str} {px : Pos}
    (hh : A.handled = none) (F : Fr h₀ env.locals s.heap m₀) (N : News h₀ env.locals s.heap ((I, revObj ax ((vs.length : Int) - 1)) :: news)) (hoff : ∀ p ∈ news, p.1 ≠ I) (hm : (ax, lo) ∈ news) (hc : lo.cls = .type "list") (hd : lo.data = .seq vs.toArray n)
    (rest : ItemsRest prog w A E h₀ env (.Name x px) body Q s [(I, "list_reverseiterator")] [(ax, lo)] (vs.reverse.map .val) m₀ news) :
    wpAny (model prog w) A (pyIter (.ref I)) (fun it s₂ => TurnsAt prog w A h₀ env (.Name x px) body Q E it s₂) E s := by
  have hIx := N _ (List.mem_cons_self ..)
  have hax := N _ (List.mem_cons_of_mem _ hm)
  have hl : s.heap.IsList ax vs.toArray := ⟨lo, hax.1, hc, n, hd⟩
  have hne : ax ≠ I := hoff _ hm
  have hit : s.heap.IsRevIter I ax ((vs.length : Int) - 1) := ⟨_, hIx.1, rfl, rfl⟩
  refine wpAny_pyIter_revIter hit ?_
  have W := Walks.listRev (prog := prog) (w := w) hh I ax hne vs.toArray
  have hlen : vs.toArray.size = vs.length := by simp
  rw [hlen] at W
  refine ktu_core (tk0 := s.toks) (keep := [(ax, lo)]) (KTurns.ofWalks W.bound fun i v s Q E st q => wpAny_pure q) (by simp) (fun i v h hp => ⟨.val v, ?_, rfl⟩) (fun i h st => ?_) (fun b hb => ?_) (fun b hb => by simpa using hb) (fun b hb => ?_) ?_ (fun p hp hI => ?_) ?_ F (fun p hp => N p (List.mem_cons_of_mem _ hp)) (And.intro hm trivial) rest
  · obtain ⟨hlt, hp⟩ := hp
    have hp' : vs.toArray[vs.length - 1 - i]? = some v := by rw [← hlen]; exact hp
    rw [List.getElem?_map, List.getElem?_reverse hlt]
    simpa using hp'
  · obtain ⟨_, ⟨it, hit, hic, _⟩, _⟩ := st
    exact ⟨[(I, it)], ⟨⟨rfl, hic⟩, trivial⟩, fun p hp => by rw [List.mem_singleton.mp hp]; exact hit⟩
  · have hb' : b = I := by simpa using hb
    rw [hb']
    exact ⟨List.mem_cons_self .., hIx.2.2⟩
  · have hb' : b = I ∨ b = ax := by simpa using hb
    rcases hb' with e | e
    · exact .inl (by simp [e])
    · exact .inr ⟨lo, by simp [e]⟩
  · intro hI
    rcases List.mem_cons.mp hI with e | hI
    · exact hIx.2.1 e.symm
    · exact hax.2.1 (List.mem_singleton.mp hI).symm
  · exact hoff p hp (List.mem_singleton.mp hI)
  · have e : (vs.length : Int) - 1 - ((0 : Nat) : Int) = (vs.length : Int) - 1 := by lia
    rw [e]
    exact ⟨Nat.zero_le _, hit, hl⟩
end
theorem forallApp {P : Addr × Obj → Prop} {a b : Led} (h1 : ∀ p ∈ a, P p) (h2 : ∀ p ∈ b, P p) : ∀ p ∈ a ++ b, P p := fun p hp => by
  rcases List.mem_append.mp hp with h | h
  · exact h1 p h
  · exact h2 p h
theorem allLt_le {d d' : Nat} (h : d ≤ d') : ∀ {l : Led}, AllLt d l → AllLt d' l
  | [], _ => trivial
  | _ :: _, x => ⟨Nat.lt_of_lt_of_le x.1 h, allLt_le h x.2⟩
theorem allLt_left {d : Nat} : ∀ {a b : Led}, AllLt d (a ++ b) → AllLt d a
  | [], _, _ => trivial
  | _ :: _, _, x => ⟨x.1, allLt_left x.2⟩
theorem last_get (l : List Value) (v : Value) : (l ++ [v])[((-1 : Int) + ((l ++ [v]).length : Int)).toNat]? = some v := by
  have e : ((-1 : Int) + ((l ++ [v]).length : Int)).toNat = l.length := by
    rw [List.length_append, List.length_singleton]; lia
  rw [e, List.getElem?_append_right (Nat.le_refl _), Nat.sub_self]; rfl

set_option maxRecDepth 100000
/- the caller's frame -/
structure Cx (w : World) (p : Program) (loose : List Str) (mean : ExcName → Option Value) (mg mb : Str → Option Value) (A₀ : Around) (base : Heap) (outer : List Env) (h₀ h : Heap) (L : Addr) (m : Str → Option Value) (cs : Scope) : Prop where
  B : Below A₀ base outer h₀
  F : Fr h₀ L h m
  X : (Mine.hd.heap_39 w.params).In h₀
  T : Top p loose mean mg mb h₀
  hk : cs.kind = .function
  CA : CodeHd base 41 37
  CB : CodeHd base 34 30

namespace RF
theorem nolen_lr : typeLookup (.type "list_reverseiterator") "__len__" = pure none := by rw [typeLookup_type, builtinLookup_eq_fast]; kernel_rfl
theorem hint_lr : typeLookup (.type "list_reverseiterator") "__length_hint__" = pure (some (.builtin "list_reverseiterator.__length_hint__")) := by rw [typeLookup_type, builtinLookup_eq_fast]; kernel_rfl
end RF
section
variable {prog : Program} {w : World} {A : Around} {E : Value → Shared → Prop} {s : Shared}
end

section
variable {prog : Program} {w : World} {A : Around} {E : Value → Shared → Prop} {s : Shared} {h₀ : Heap} {L : Addr} {m : Str → Option Value} {Q : Value → Shared → Prop}
end

section
variable {prog : Program} {w : World} {A : Around} {E : Value → Shared → Prop} {s : Shared} {h₀ : Heap} {L : Addr} {Q : Value → Shared → Prop}
theorem len_ints {D : Addr} {vs : List Value} {ks : List Int} {k : Nat} (hl : s.heap.IsList D vs.toArray) (hi : IntsAre vs ks) (hk : ks.length = k) (hf : k < 2 ^ 62) (h : Q (.int (k : Nat) (s.toks + 1)) { s with toks := s.toks + 1 + 1 }) :
    wpAny (model prog w) A (call (.builtin "len") [.ref D]) Q E s := by
  have e : vs.toArray.size = k := by simp [hi.length, hk]
  refine Calls.call_len_list hl (by lia) ?_
  rw [e]
  exact h
theorem kl_reverseU {m : Str → Option Value} {D : Addr} {its : Array Value} {n : Nat} {l : List Value} {news news' : Led} (F : Fr h₀ L s.heap m) (N : News h₀ L s.heap news) (U : Upd D (listOf its n) (listOf l.toArray n) news news') (e : its.toList.reverse = l) (hz : its.toList.length ≤ sizeLine)
    (h : ∀ h', Fr h₀ L h' m → News h₀ L h' news' → Q .none { s with heap := h' }) : wpAny (model prog w) A (call (.builtin "list.reverse") [.ref D]) Q E s := kl_reverse F N e U hz h
end

theorem wpAny_nextOf_ascii_item {prog : Program} {w : World} {A : Around} {E : Value → Shared → Prop} {s : Shared} {it : Addr} {x : Str} {t : Tok} {i c : Nat} {Q : Value → Shared → Prop} (hit : s.heap.IsStrIter it "str_ascii_iterator" x t i) (hx : x.cps[i]? = some c)
    (hQ : ∀ h', h'.IsStrIter it "str_ascii_iterator" x t (i + 1) → Heap.SameBut it s.heap h' → Q (.str ⟨#[c]⟩ s.toks) { s with heap := h', toks := s.toks + 1 }) :
    wpAny (model prog w) A (Builtin.SmallTypes.nextOf (.ref it)) Q E s := by
  obtain ⟨o, ho, hc, hd⟩ := id hit
  unfold Builtin.SmallTypes.nextOf
  refine wpAny_bind (wpAny_callSpecial?_slot (name := Str.ofString "__next__") hit.typeIs F.slot_str_ascii_iterator_next
    (wpAny_call_entry F.slot_str_ascii_iterator_next hit.typeIs F.entry_str_ascii_iterator_next ?_ (F.args_str_ascii_iterator_next_1 _)))
  show wpAny _ _ (field (.ref it) 0 >>= _) _ _ s
  refine wpAny_bind (wpAny_field ho hd (x := .str x t) rfl ?_)
  show wpAny _ _ (field (.ref it) 1 >>= _) _ _ s
  refine wpAny_bind (wpAny_field ho hd (x := .int i 0) rfl ?_)
  simp only [Int.toNat_natCast, hx]
  refine wpAny_bind (wpAny_setField ho hd (by simp) (wpAny_bind (wpAny_mkStr (wpAny_pure ⟨_, rfl, wpAny_pure (hQ _ ?_ (Heap.SameBut.update ..))⟩) (by show 1 ≤ sizeLine; decide))))
  exact ⟨_, Heap.get?_update_self _ ho (Obj.isFreed_of_fields (Obj.data_mapFields hd _)), (Obj.cls_mapFields ..).trans hc, by
    rw [Obj.data_mapFields hd]; simp [rawInt]⟩
theorem wpAny_nextOf_ascii_end {prog : Program} {w : World} {A : Around} {E : Value → Shared → Prop} {s : Shared} {it : Addr} {x : Str} {t : Tok} {i : Nat} {Q : Value → Shared → Prop} (hh : A.handled = none)
    (hit : s.heap.IsStrIter it "str_ascii_iterator" x t i) (hx : x.cps[i]? = none)
    (hE : ∀ h' e, Heap.ExtBut it s.heap h' → (∃ o, h'.get? e = some o ∧ o.cls = .type "StopIteration") → E (.ref e) { s with heap := h' }) :
    wpAny (model prog w) A (Builtin.SmallTypes.nextOf (.ref it)) Q E s := by
  obtain ⟨o, ho, hc, hd⟩ := id hit
  unfold Builtin.SmallTypes.nextOf
  refine wpAny_bind (wpAny_callSpecial?_slot (name := Str.ofString "__next__") hit.typeIs F.slot_str_ascii_iterator_next
    (wpAny_call_entry F.slot_str_ascii_iterator_next hit.typeIs F.entry_str_ascii_iterator_next ?_ (F.args_str_ascii_iterator_next_1 _)))
  show wpAny _ _ (field (.ref it) 0 >>= _) _ _ s
  refine wpAny_bind (wpAny_field ho hd (x := .str x t) rfl ?_)
  show wpAny _ _ (field (.ref it) 1 >>= _) _ _ s
  refine wpAny_bind (wpAny_field ho hd (x := .int i 0) rfl ?_)
  simp only [Int.toNat_natCast, hx]
  refine wpAny_bind (wpAny_rule (wpAny_bind (wpAny_setField ho hd (by simp) (wpAny_bind (wpAny_letGo ?_)))))
  show wpAny _ _ (newExc (.type "StopIteration") [] >>= _) _ _ _
  refine wpAny_bind ?_
  simp only [newExc, newTuple]
  refine wpAny_bind (wpAny_newObj_type ?_ (by size_fits))
  refine wpAny_bind (m := firstArgMember _ _) (wpAny_of_eq (a := Value.none) (by first | rfl | (simp only [firstArgMember]; rfl)) ?_)
  refine wpAny_newObj_type ?_ (by size_fits)
  simp only [raiseNew]
  refine wpAny_bind (wpAny_handled ?_)
  first | rw [show A.in1.handled = none from hh] | rw [hh]
  refine wpAny_bind (wpAny_pure (wpAny_throw ?_))
  exact hE _ _ (((Heap.SameBut.update ..).extBut.push _).push _) ⟨_, Heap.get?_push_size _ rfl, rfl⟩

inductive Src | lst (l : Addr) (xs : Array Value) | txt (x : Str) (t : Tok)
def Src.fp : Src → List Addr | .lst l _ => [l] | .txt .. => []
def Src.n : Src → Nat | .lst _ xs => xs.size | .txt x _ => x.cps.size
def Src.cls : Src → String | .lst .. => "list_iterator" | .txt .. => "str_ascii_iterator"
def Src.St (I : Addr) (k : Nat) (h : Heap) : Src → Prop | .lst l xs => h.IsListIter I l k ∧ h.IsList l xs | .txt x t => h.IsStrIter I "str_ascii_iterator" x t k
def Src.P (k : Nat) (v : Value) : Src → Prop | .lst _ xs => xs[k]? = some v | .txt x _ => SignAt x k v
def Src.val : Src → Value | .lst l _ => .ref l | .txt x t => .str x t
def Src.ok (h : Heap) : Src → Prop | .lst l xs => h.IsList l xs | .txt x _ => x.cps.all (· < 128) = true
theorem Src.St.frame {I k} {h h' : Heap} : ∀ {x : Src}, x.St I k h → (∀ b o, (b = I ∨ b ∈ x.fp) → h.get? b = some o → h'.get? b = some o) → x.St I k h'
  | .lst l xs, ⟨a, b⟩, hk => ⟨a.at fun o e => hk _ o (.inl rfl) e, b.at fun o e => hk _ o (.inr (by simp [Src.fp])) e⟩
  | .txt x t, a, hk => let ⟨o, ho, r⟩ := a; ⟨o, hk _ o (.inl rfl) ho, r⟩
theorem Src.St.here {I k} {h : Heap} : ∀ {x : Src}, x.St I k h → ∃ o, h.get? I = some o ∧ o.cls = .type x.cls
  | .lst l xs, ⟨⟨o, a, b, _⟩, _⟩ => ⟨o, a, b⟩
  | .txt x t, ⟨o, a, b, _⟩ => ⟨o, a, b⟩
section
variable {prog : Program} {w : World} {A : Around} {E : Value → Shared → Prop} {s : Shared}
theorem Src.item {x : Src} {I : Addr} {k : Nat} {Q : Value → Shared → Prop} (hx : ∀ b ∈ x.fp, b ≠ I) (st : x.St I k s.heap) (hk : k < x.n)
    (hQ : ∀ v h' tk, x.P k v → x.St I (k + 1) h' → Heap.SameBut I s.heap h' → Q v { s with heap := h', toks := tk }) : wpAny (model prog w) A (Builtin.SmallTypes.nextOf (.ref I)) Q E s := by
  cases x with
  | lst l xs =>
    obtain ⟨a, b⟩ := st
    have hk' : k < xs.size := hk
    refine wpAny_nextOf_list_item a b (x := xs[k]) (by simp [hk']) fun h' h1 h2 => ?_
    exact hQ _ h' s.toks (by simp [Src.P, hk']) ⟨h1, b.extBut h2.extBut (hx l (by simp [Src.fp]))⟩ h2
  | txt x t =>
    have hk' : k < x.cps.size := hk
    refine wpAny_nextOf_ascii_item st (c := x.cps[k]) (by simp [hk']) fun h' h1 h2 => ?_
    exact hQ _ h' _ ⟨_, _, by simp [hk'], rfl⟩ h1 h2
theorem Src.stop {x : Src} {I : Addr} {Q : Value → Shared → Prop} (hh : A.handled = none) (st : x.St I x.n s.heap)
    (hE : ∀ h' e, Heap.ExtBut I s.heap h' → (∃ o, h'.get? e = some o ∧ o.cls = .type "StopIteration") → E (.ref e) { s with heap := h' }) : wpAny (model prog w) A (Builtin.SmallTypes.nextOf (.ref I)) Q E s := by
  cases x with
  | lst l xs => exact wpAny_nextOf_list_end hh st.1 st.2 (by simp [Src.n]) hE
  | txt x t => exact wpAny_nextOf_ascii_end hh st (by simp [Src.n]) hE
theorem Src.make {x : Src} {Q : Value → Shared → Prop} (ok : x.ok s.heap)
    (hQ : ∀ o, x.St s.heap.objs.size 0 (s.heap.push o) → Q (.ref s.heap.objs.size) { s with heap := s.heap.push o }) : wpAny (model prog w) A (pyIter x.val) Q E s := by
  cases x with
  | lst l xs => exact wpAny_pyIter_list ok (hQ _ ⟨⟨_, Heap.get?_push_size _ rfl, rfl, rfl⟩, Heap.IsList.at ok fun o e => Heap.get?_push_of_some _ e⟩)
  | txt x t => exact wpAny_pyIter_ascii ok (hQ _ ⟨_, Heap.get?_push_size _ rfl, rfl, rfl⟩)
end
def numb : Nat → List Src → List (Addr × Src) | _, [] => [] | a, x :: r => (a, x) :: numb (a + 1) r
theorem numb_length : ∀ (a : Nat) (l : List Src), (numb a l).length = l.length
  | _, [] => rfl
  | a, _ :: r => congrArg (· + 1) (numb_length (a + 1) r)
theorem numb_snoc : ∀ (a : Nat) (l : List Src) (x : Src), numb a (l ++ [x]) = numb a l ++ [(a + l.length, x)]
  | _, [], _ => rfl
  | a, y :: r, x => by
    show (a, y) :: numb (a + 1) (r ++ [x]) = (a, y) :: (numb (a + 1) r ++ [(a + (r.length + 1), x)])
    rw [numb_snoc (a + 1) r x, show a + 1 + r.length = a + (r.length + 1) by lia]
theorem numb_mem : ∀ {a : Nat} {l : List Src} {p : Addr × Src}, p ∈ numb a l → a ≤ p.1 ∧ p.1 < a + l.length ∧ p.2 ∈ l
  | _, [], _, h => nomatch h
  | a, x :: r, p, h => by
    rcases List.mem_cons.mp h with rfl | h
    · exact ⟨Nat.le_refl _, by simp, .head _⟩
    · obtain ⟨h1, h2, h3⟩ := numb_mem h
      exact ⟨Nat.le_of_succ_le h1, Nat.lt_of_lt_of_eq h2 (Nat.succ_add_eq_add_succ a r.length), .tail _ h3⟩
theorem numb_pair : ∀ (a : Nat) (l : List Src), (numb a l).Pairwise (fun p q => p.1 ≠ q.1)
  | _, [] => .nil
  | a, x :: r => .cons (fun q hq e => Nat.ne_of_lt (numb_mem hq).1 e) (numb_pair (a + 1) r)
abbrev refs (its : List (Addr × Src)) : List Value := its.map fun p => .ref p.1
inductive Draws (i : Nat) : List Src → List Value → Prop
  | nil : Draws i [] []
  | cons {x : Src} {v : Value} {r : List Src} {vs : List Value} (h : x.P i v) (t : Draws i r vs) : Draws i (x :: r) (v :: vs)
theorem Draws.length {i : Nat} : ∀ {l : List Src} {vs : List Value}, Draws i l vs → vs.length = l.length
  | _, _, .nil => rfl
  | _, _, .cons _ t => congrArg (· + 1) t.length
theorem Draws.snoc {i : Nat} {x : Src} {v : Value} (h : x.P i v) : ∀ {l : List Src} {vs : List Value}, Draws i l vs → Draws i (l ++ [x]) (vs ++ [v])
  | _, _, .nil => .cons h .nil
  | _, _, .cons a t => .cons a (t.snoc h)
abbrev IsTI (h : Heap) (TI : Addr) (vs : List Value) : Prop := h.get? TI = some { cls := .type "tuple", data := .seq vs.toArray }
def IsTO (h : Heap) (TO : Addr) (vs : List Value) : Prop := ∃ n, h.get? TO = some { cls := .type "tuple", dict := none, data := .seq vs.toArray n, slots := #[] }
structure ZA (z TI TO : Addr) (its : List (Addr × Src)) : Prop where
  TIz : TI ≠ z
  TOz : TO ≠ z
  TIO : TI ≠ TO
  pw : its.Pairwise (fun p q => p.1 ≠ q.1)
  off : ∀ p ∈ its, p.1 ≠ z ∧ p.1 ≠ TO ∧ p.1 ≠ TI ∧ ∀ b ∈ p.2.fp, b ≠ z ∧ b ≠ TO ∧ ∀ q ∈ its, b ≠ q.1
section
variable {prog : Program} {w : World} {A : Around} {E : Value → Shared → Prop} {s : Shared}
theorem IsTO.frame {h h' : Heap} {TO : Addr} {vs : List Value} (x : IsTO h TO vs) (hk : ∀ o, h.get? TO = some o → h'.get? TO = some o) : IsTO h' TO vs := let ⟨n, e⟩ := x; ⟨n, hk _ e⟩
theorem wpAny_updateTO {TO : Addr} {vs junk : List Value} {x y : Value} {Q : Unit → Shared → Prop} (hT : IsTO s.heap TO (vs ++ y :: junk)) (hz : (vs ++ y :: junk).length ≤ 1000)
    (h : ∀ h', IsTO h' TO ((vs ++ [x]) ++ junk) → Heap.SameBut TO s.heap h' → Q () { s with heap := h' }) :
    wpAny (model prog w) A (updateSeq TO (·.setIfInBounds vs.length x)) Q E s := by
  obtain ⟨n, e⟩ := hT
  have hz' : (vs ++ y :: junk).toArray.size ≤ 1000 := by simpa using hz
  refine wpAny_updateSeq e rfl (h _ ⟨n, ?_⟩ (Heap.SameBut.update ..)) (by rw [sizeLine_eq]; lia) (by rw [sizeLine_eq]; simp at hz' ⊢; lia)
  rw [Heap.get?_update_self _ e rfl]
  simp [Obj.mapSeq]
end

/- the turns of a zip's next item -/
inductive ZI (s : Shared) (z TI TO : Addr) (its : List (Addr × Src)) (i : Nat) {β : Type} (l : List (Value × Nat)) (b1 : Option β) (s' : Shared) : Prop
  | mk (hb : b1 = none) (done rest : List (Addr × Src)) (vals junk : List Value) (h' : Heap) (tk : Nat) (e1 : its = done ++ rest) (e2 : l = (refs rest).zipIdx done.length) (e3 : s' = { s with heap := h', toks := tk }) (dr : Draws i (done.map (·.2)) vals) (hj : junk.length = rest.length)
    (zz : IsZip h' z TI TO .ellipsis) (to : IsTO h' TO (vals ++ junk)) (d1 : ∀ p ∈ done, p.2.St p.1 (i + 1) h') (d2 : ∀ p ∈ rest, p.2.St p.1 i h') (sz : h'.objs.size = s.heap.objs.size)
    (keep : ∀ c o, c ≠ z → c ≠ TO → (∀ p ∈ its, c ≠ p.1) → s.heap.get? c = some o → h'.get? c = some o)
section
variable {prog : Program} {w : World} {A : Around} {E : Value → Shared → Prop} {s : Shared}
theorem zipG_item {z TI TO : Addr} {its : List (Addr × Src)} {i : Nat} {old : List Value} {Q : Value → Shared → Prop} (D : ZA z TI TO its) (hne : its ≠ []) (hsmall : its.length ≤ 100)
    (hz : IsZip s.heap z TI TO .none) (hTI : IsTI s.heap TI (refs its)) (hTO : IsTO s.heap TO old) (hold : old.length = its.length)
    (hst : ∀ p ∈ its, p.2.St p.1 i s.heap) (hlt : ∀ p ∈ its, i < p.2.n)
    (hQ : ∀ (T : Addr) h' tk vals, Draws i (its.map (·.2)) vals → IsZip h' z TI TO (rawInt (T : Nat)) → IsTI h' TI (refs its) → IsTO h' TO vals → (∀ p ∈ its, p.2.St p.1 (i + 1) h') → IsTI h' T vals → s.heap.objs.size ≤ T →
      (∀ c o, c ≠ z → c ≠ TO → (∀ p ∈ its, c ≠ p.1) → s.heap.get? c = some o → h'.get? c = some o) → Q (.ref T) { s with heap := h', toks := tk }) :
    wpAny (model prog w) A (Builtin.«zip.__next__» ⟨[.ref z], []⟩) (fun fin s' => ∃ v, fin = .done (.ret v) ∧ Q v s') E s := by
  show wpAny _ _ (field (.ref z) 2 >>= _) _ _ _
  refine wpAny_bind (wpAny_field hz rfl (x := .bool false) rfl ?_)
  show wpAny _ _ (field (.ref z) 3 >>= _) _ _ _
  refine wpAny_bind (wpAny_field hz rfl (x := .ref TI) rfl ?_)
  refine wpAny_bind (wpAny_seqItems hTI rfl ?_)
  have he : (refs its).toArray.isEmpty = false := by
    cases its with
    | nil => exact absurd rfl hne
    | cons a r => simp [refs]
  simp only [he, Bool.false_eq_true, if_false]
  show wpAny _ _ (Builtin.SmallTypes.ownedTupleIsFree (.ref z) >>= _) _ _ _
  refine wpAny_bind ?_
  unfold Builtin.SmallTypes.ownedTupleIsFree
  refine wpAny_bind (wpAny_field hz rfl (x := .none) rfl (wpAny_pure ?_))
  simp only [if_true]
  refine wpAny_bind (wpAny_rule ?_)
  refine wpAny_bind (wpAny_field hz rfl (x := .ref TO) rfl ?_)
  refine wpAny_bind (wpAny_setField_rec hz (by simp) fun h₁ hz₁ hs₁ => ?_)
  replace hz₁ : IsZip h₁ z TI TO .ellipsis := hz₁
  refine wpAny_bind ?_
  refine wpAny_forIn_list _ (fun l b s' => ZI s z TI TO its i l b.1 s') _ ?_ ?_ _ _ ?_
  · rintro ⟨v, k⟩ rest b s' hz0
    refine hide ?_
    intro Z hZ
    obtain ⟨hb, done, rest', vals, junk, h', tk, e1, e2, rfl, dr, hj, zz, to, d1, d2, sz, keep⟩ := hz0
    cases rest' with
    | nil => exact absurd e2 (by simp [refs])
    | cons q rest'' =>
      cases junk with
      | nil => exact absurd hj (by simp)
      | cons y junk' =>
        have e2' : (v, k) :: rest = (Value.ref q.1, done.length) :: (refs rest'').zipIdx (done.length + 1) := by rw [e2]; simp [refs]
        obtain ⟨ev, er⟩ := List.cons.inj e2'
        obtain ⟨rfl, rfl⟩ := Prod.mk.inj ev
        have hq : q ∈ its := by rw [e1]; simp
        obtain ⟨qz, qO, qI, qfp⟩ := D.off q hq
        refine hZ ?_
        clear hZ Z
        refine wpAny_bind (wpAny_onRaise ?_)
        show wpAny _ _ (Builtin.SmallTypes.nextOf (.ref q.1) >>= _) _ _ _
        refine wpAny_bind (Src.item (x := q.2) (fun b hb => (qfp b hb).2.2 q hq) (d2 q (.head _)) (hlt q hq) fun v h₂ tk₂ hP hS hs₂ => wpAny_pure ?_)
        have hTO₂ : IsTO h₂ TO (vals ++ y :: junk') := to.frame fun o e => hs₂.extBut _ _ (Ne.symm qO) e
        obtain ⟨nn, eTO⟩ := id hTO₂
        refine wpAny_bind (wpAny_seqItems eTO rfl ?_)
        have hvl : vals.length = done.length := by rw [dr.length]; simp
        have hsz : (vals ++ y :: junk').length ≤ 1000 := by
          have h1 := congrArg List.length e1
          simp at h1 hj ⊢
          lia
        show wpAny _ _ (updateSeq TO (fun x_1 => x_1.setIfInBounds done.length v) >>= _) _ _ _
        rw [← hvl]
        refine wpAny_bind (wpAny_updateTO hTO₂ hsz fun h₃ hTO₃ hs₃ => ?_)
        refine wpAny_bind (wpAny_letGo (wpAny_pure ?_))
        have dis : ∀ p ∈ done ++ rest'', p.1 ≠ q.1 := by
          have pw := D.pw
          rw [e1] at pw
          obtain ⟨_, h2, h3⟩ := List.pairwise_append.mp pw
          intro p hp
          rcases List.mem_append.mp hp with hp | hp
          · exact h3 p hp q (.head _)
          · exact Ne.symm ((List.pairwise_cons.mp h2).1 p hp)
        have mov : ∀ p ∈ done ++ rest'', ∀ j, p.2.St p.1 j h' → p.2.St p.1 j h₃ := by
          intro p hp j st
          have hpi : p ∈ its := by rw [e1]; rcases List.mem_append.mp hp with hp | hp <;> simp [hp]
          obtain ⟨_, pO, _, pfp⟩ := D.off p hpi
          refine st.frame fun b o hb e => ?_
          rcases hb with rfl | hb
          · exact hs₃.extBut _ _ pO (hs₂.extBut _ _ (dis p hp) e)
          · exact hs₃.extBut _ _ (pfp b hb).2.1 (hs₂.extBut _ _ ((pfp b hb).2.2 q hq) e)
        refine ⟨rfl, done ++ [q], rest'', vals ++ [v], junk', h₃, tk₂, by rw [e1]; simp, ?_, rfl, ?_, by simpa using hj, ?_, hTO₃, ?_, ?_, ?_, ?_⟩
        · rw [er, List.length_append, List.length_singleton]
        · rw [List.map_append]; exact dr.snoc hP
        · exact hs₃.extBut _ _ (Ne.symm D.TOz) (hs₂.extBut _ _ (Ne.symm qz) zz)
        · intro p hp
          rcases List.mem_append.mp hp with hp | hp
          · exact mov p (List.mem_append_left _ hp) _ (d1 p hp)
          · rw [List.mem_singleton.mp hp]
            refine hS.frame fun b o hb e => ?_
            rcases hb with rfl | hb
            · exact hs₃.extBut _ _ qO e
            · exact hs₃.extBut _ _ (qfp b hb).2.1 e
        · intro p hp
          exact mov p (List.mem_append_right _ hp) _ (d2 p (.tail _ hp))
        · rw [hs₃.1, hs₂.1, sz]
        · intro c o c1 c2 c3 e
          exact hs₃.extBut _ _ c2 (hs₂.extBut _ _ (c3 q hq) (keep c o c1 c2 c3 e))
  · rintro b s' hz0
    refine hide ?_
    intro Z hZ
    obtain ⟨hb, done, rest', vals, junk, h', tk, e1, e2, rfl, dr, hj, zz, to, d1, d2, sz, keep⟩ := hz0
    cases rest' with
    | cons q r => exact absurd e2 (by simp [refs])
    | nil =>
      have hj0 : junk = [] := List.length_eq_zero_iff.mp (by simpa using hj)
      subst hj0
      rw [List.append_nil] at e1 to
      subst e1
      obtain ⟨nn, eTO⟩ := id to
      refine hZ ?_
      clear hZ Z
      rw [hb]
      refine wpAny_bind (wpAny_seqItems eTO rfl ?_)
      have hvl : vals.length = its.length := by rw [dr.length]; simp
      refine wpAny_bind (wpAny_newTuple ?_ (by rw [sizeLine_eq]; simp; lia))
      have zlt : z < h'.objs.size := Heap.lt_size zz
      have Olt : TO < h'.objs.size := Heap.lt_size eTO
      show wpAny _ _ (Builtin.SmallTypes.ownedTupleHandOut (.ref z) (.ref h'.objs.size) >>= _) _ _ _
      refine wpAny_bind ?_
      unfold Builtin.SmallTypes.ownedTupleHandOut
      have hz₆ : IsZip (h'.push { cls := .type "tuple", data := .seq vals.toArray.toList.toArray }) z TI TO .ellipsis := Heap.get?_push_of_some _ zz
      refine wpAny_bind (wpAny_setField_rec hz₆ (by simp) fun h₇ hz₇ hs₇ => ?_)
      replace hz₇ : IsZip h₇ z TI TO (rawInt h'.objs.size) := hz₇
      refine wpAny_setField_rec hz₇ (by simp) fun h₈ hz₈ hs₈ => ?_
      replace hz₈ : IsZip h₈ z TI TO (rawInt h'.objs.size) := hz₈
      have up : ∀ c o, c ≠ z → h'.get? c = some o → h₈.get? c = some o := fun c o c1 e => hs₈.extBut _ _ c1 (hs₇.extBut _ _ c1 (Heap.get?_push_of_some _ e))
      refine wpAny_pure ⟨_, rfl, ?_⟩
      refine hQ h'.objs.size h₈ tk vals dr hz₈ (up _ _ D.TIz (keep _ _ D.TIz D.TIO (fun p hp => Ne.symm (D.off p hp).2.2.1) hTI)) ⟨nn, up _ _ D.TOz eTO⟩ ?_ ?_ (Nat.le_of_eq sz.symm) fun c o c1 c2 c3 e => up c o c1 (keep c o c1 c2 c3 e)
      · intro p hp
        obtain ⟨pz, pO, _, pfp⟩ := D.off p hp
        refine (d1 p hp).frame fun b o hb e => up b o ?_ e
        rcases hb with rfl | hb
        · exact pz
        · exact (pfp b hb).1
      · have h9 : (h'.push { cls := .type "tuple", data := .seq vals.toArray.toList.toArray }).get? h'.objs.size = some { cls := .type "tuple", data := .seq vals.toArray.toList.toArray } := Heap.get?_push_size _ rfl
        have h10 := hs₈.extBut _ _ (Nat.ne_of_gt zlt) (hs₇.extBut _ _ (Nat.ne_of_gt zlt) h9)
        simpa using h10
  · refine ⟨rfl, [], its, [], old, h₁, s.toks, rfl, rfl, rfl, .nil, hold, hz₁, hTO.frame (fun o e => hs₁.extBut _ _ D.TOz e), (fun _ h => nomatch h), (fun p hp => ?_), hs₁.1, fun c o c1 _ _ e => hs₁.extBut _ _ c1 e⟩
    obtain ⟨pz, pO, _, pfp⟩ := D.off p hp
    refine (hst p hp).frame fun b o hb e => ?_
    rcases hb with rfl | hb
    · exact hs₁.extBut _ _ pz e
    · exact hs₁.extBut _ _ (pfp b hb).1 e
end

section
variable {prog : Program} {w : World} {A : Around} {E : Value → Shared → Prop} {s : Shared}
theorem zipG_end {z TI TO : Addr} {q : Addr × Src} {its : List (Addr × Src)} {Q : Fin → Shared → Prop} (hh : A.handled = none) (D : ZA z TI TO (q :: its))
    (hz : IsZip s.heap z TI TO .none) (hTI : IsTI s.heap TI (refs (q :: its))) (hst : q.2.St q.1 q.2.n s.heap)
    (hE : ∀ h' e, (∀ c o, c ≠ z → c ≠ q.1 → s.heap.get? c = some o → h'.get? c = some o) → (∃ o, h'.get? e = some o ∧ o.cls = .type "StopIteration") → E (.ref e) { s with heap := h' }) :
    wpAny (model prog w) A (Builtin.«zip.__next__» ⟨[.ref z], []⟩) Q E s := by
  obtain ⟨qz, qO, qI, qfp⟩ := D.off q (.head _)
  show wpAny _ _ (field (.ref z) 2 >>= _) _ _ _
  refine wpAny_bind (wpAny_field hz rfl (x := .bool false) rfl ?_)
  show wpAny _ _ (field (.ref z) 3 >>= _) _ _ _
  refine wpAny_bind (wpAny_field hz rfl (x := .ref TI) rfl ?_)
  refine wpAny_bind (wpAny_seqItems hTI rfl ?_)
  have he : (refs (q :: its)).toArray.isEmpty = false := by simp [refs]
  simp only [he, Bool.false_eq_true, if_false]
  show wpAny _ _ (Builtin.SmallTypes.ownedTupleIsFree (.ref z) >>= _) _ _ _
  refine wpAny_bind ?_
  unfold Builtin.SmallTypes.ownedTupleIsFree
  refine wpAny_bind (wpAny_field hz rfl (x := .none) rfl (wpAny_pure ?_))
  simp only [if_true]
  refine wpAny_bind (wpAny_rule ?_)
  refine wpAny_bind (wpAny_field hz rfl (x := .ref TO) rfl ?_)
  refine wpAny_bind (wpAny_setField_rec hz (by simp) fun h₁ hz₁ hs₁ => ?_)
  replace hz₁ : IsZip h₁ z TI TO .ellipsis := hz₁
  refine wpAny_bind ?_
  simp only [refs, List.map_cons, List.zipIdx_cons, List.forIn_cons]
  refine wpAny_bind (wpAny_bind (wpAny_onRaise ?_))
  show wpAny _ _ (Builtin.SmallTypes.nextOf (.ref q.1) >>= _) _ _ _
  refine wpAny_bind (Src.stop (x := q.2) hh (hst.frame fun b o hb e => ?_) fun h₂ e hs₂ he => ?_)
  · rcases hb with rfl | hb
    · exact hs₁.extBut _ _ qz e
    · exact hs₁.extBut _ _ (qfp b hb).1 e
  · obtain ⟨oe, hoe, hce⟩ := he
    have hz₂ : IsZip h₂ z TI TO .ellipsis := hs₂ _ _ (Ne.symm qz) hz₁
    have hez : e ≠ z := fun x => by subst x; rw [hz₂] at hoe; cases hoe; simp at hce
    refine wpAny_setField_rec hz₂ (by simp) fun h₃ _ hs₃ => hE h₃ e (fun c o c1 c3 x => hs₃.extBut _ _ c1 (hs₂ _ _ c3 (hs₁.extBut _ _ c1 x))) ⟨oe, hs₃.extBut _ _ hez hoe, hce⟩

/- all that a zip keeps, ahead of its i-th turn -/
structure ZSt (z TI TO : Addr) (its : List (Addr × Src)) (f0 : Value) (i : Nat) (h : Heap) : Prop where
  z : IsZip h z TI TO f0
  ti : IsTI h TI (refs its)
  tov : ∃ old, IsTO h TO old ∧ old.length = its.length
  st : ∀ p ∈ its, p.2.St p.1 i h
def zfp (z TI TO : Addr) (its : List (Addr × Src)) : List Addr := [z, TI, TO] ++ (its.map (·.1) ++ its.flatMap (fun p => p.2.fp))
def zwr (z TO : Addr) (its : List (Addr × Src)) : List Addr := [z, TO] ++ its.map (·.1)
theorem mem_zwr {z TO c : Addr} {its : List (Addr × Src)} (h : c ∉ zwr z TO its) : c ≠ z ∧ c ≠ TO ∧ ∀ p ∈ its, c ≠ p.1 := by
  refine ⟨fun e => h (by simp [zwr, e]), fun e => h (by simp [zwr, e]), fun p hp e => h ?_⟩
  exact List.mem_append_right _ (by rw [e]; exact List.mem_map_of_mem hp)
theorem ZSt.frame {z TI TO : Addr} {its : List (Addr × Src)} {f0 : Value} {i : Nat} {h h' : Heap} (x : ZSt z TI TO its f0 i h) (hk : ∀ b ∈ zfp z TI TO its, ∀ o, h.get? b = some o → h'.get? b = some o) : ZSt z TI TO its f0 i h' where
  z := hk z (by simp [zfp]) _ x.z
  ti := hk TI (by simp [zfp]) _ x.ti
  tov := let ⟨old, a, b⟩ := x.tov; ⟨old, a.frame (hk TO (by simp [zfp])), b⟩
  st := fun p hp => (x.st p hp).frame fun b o hb e => hk b (by
    rcases hb with rfl | hb
    · exact List.mem_append_right _ (List.mem_append_left _ (List.mem_map_of_mem hp))
    · exact List.mem_append_right _ (List.mem_append_right _ (List.mem_flatMap.mpr ⟨p, hp, hb⟩))) o e
theorem WalksU.zipG (hh : A.handled = none) {z TI TO : Addr} {q : Addr × Src} {its : List (Addr × Src)} (D : ZA z TI TO (q :: its)) (hsmall : (q :: its).length ≤ 100) (hn : ∀ p ∈ q :: its, q.2.n ≤ p.2.n) :
    WalksU prog w A z (zfp z TI TO (q :: its)) (zwr z TO (q :: its)) q.2.n
      (fun i vals => Draws i ((q :: its).map (·.2)) vals.toList)
      (fun i h => ZSt z TI TO (q :: its) .none i h)
      (fun i T h => ZSt z TI TO (q :: its) (rawInt (T : Nat)) (i + 1) h ∧ T ∉ zwr z TO (q :: its)) where
  sub := fun c hc => by
    rcases List.mem_append.mp hc with hc | hc
    · refine List.mem_append_left _ ?_
      simp at hc ⊢
      rcases hc with h | h <;> simp [h]
    · exact List.mem_append_right _ (List.mem_append_left _ hc)
  frame := fun i h h' hst hk => hst.frame hk
  item := fun i s Q E hi hst hQ => by
    obtain ⟨old, ho, hol⟩ := hst.tov
    have hT : s.TypeIs (.ref z) "zip" := ⟨_, hst.z, rfl⟩
    unfold pyNext
    refine wpAny_bind (wpAny_attempt (wpAny_callSpecial?_slot (name := Str.ofString "__next__") hT F.slot_zip_next
      (wpAny_call_entry F.slot_zip_next hT F.entry_zip_next
        (zipG_item D (by simp) hsmall hst.z hst.ti ho hol hst.st (fun p hp => Nat.lt_of_lt_of_le hi (hn p hp)) fun T h' tk vals dr zz ti to st tt hge keep => wpAny_pure ?_) (F.args_zip_next_1 _))))
    have lt : ∀ {c : Addr} {o : Obj}, s.heap.get? c = some o → T ≠ c := fun e => Nat.ne_of_gt (Nat.lt_of_lt_of_le (Heap.lt_size e) hge)
    refine hQ T vals.toArray h' tk (by simpa using dr) ⟨_, tt, rfl, 0, rfl⟩ ⟨⟨zz, ti, ⟨vals, to, by rw [dr.length]; simp⟩, st⟩, fun hm => ?_⟩ fun c o hc e => ?_
    · rcases List.mem_append.mp hm with hm | hm
      · rcases List.mem_cons.mp hm with rfl | hm
        · exact lt hst.z rfl
        · obtain ⟨n, e⟩ := ho
          exact lt e (List.mem_singleton.mp hm)
      · obtain ⟨p, hp, e⟩ := List.mem_map.mp hm
        obtain ⟨o, e', _⟩ := (hst.st p hp).here
        exact lt e' e.symm
    · obtain ⟨c1, c2, c3⟩ := mem_zwr hc
      exact keep c o c1 c2 c3 e
  go := fun elts k pos i T s Q E hm hQ => by
    obtain ⟨hm, _⟩ := hm
    refine wpAny_letOwnedTupleGo_zip hm.z fun h' hz' hs' => hQ h' ⟨hz', hs'.extBut _ _ D.TIz hm.ti, ?_, ?_⟩ fun c o hc e => hs'.extBut _ _ (mem_zwr hc).1 e
    · obtain ⟨old, a, b⟩ := hm.tov
      exact ⟨old, a.frame fun o e => hs'.extBut _ _ D.TOz e, b⟩
    · intro p hp
      obtain ⟨pz, _, _, pfp⟩ := D.off p hp
      refine (hm.st p hp).frame fun b o hb e => ?_
      rcases hb with rfl | hb
      · exact hs'.extBut _ _ pz e
      · exact hs'.extBut _ _ (pfp b hb).1 e
  apart := fun i T h hm hT => hm.2 hT
  done := fun s Q E hst hQ => by
    have hT : s.TypeIs (.ref z) "zip" := ⟨_, hst.z, rfl⟩
    unfold pyNext
    refine wpAny_bind (wpAny_attempt (wpAny_callSpecial?_slot (name := Str.ofString "__next__") hT F.slot_zip_next
      (wpAny_call_entry F.slot_zip_next hT F.entry_zip_next (zipG_end hh D hst.z hst.ti (hst.st q (.head _)) fun h' e hk he => ?_) (F.args_zip_next_1 _))))
    obtain ⟨o, ho, hc⟩ := he
    refine wpAny_bind (wpAny_isInstance (T := "StopIteration") (b := true) ⟨o, ho, hc⟩ isSubtype_stop ?_)
    exact wpAny_pure (hQ _ s.toks fun c o hc e => let ⟨c1, _, c3⟩ := mem_zwr hc; hk c o c1 (c3 q (.head _)) e)
  self := fun i s Q E hst hQ => wpAny_pyIter_zip hst.z hQ
end

section
variable {prog : Program} {w : World} {A : Around} {E : Value → Shared → Prop} {s : Shared}
theorem Src.ok.mono {x : Src} {h h' : Heap} (o : x.ok h) (hk : ∀ b o, h.get? b = some o → h'.get? b = some o) : x.ok h' := by
  cases x with
  | lst l xs => exact Heap.IsList.at o (hk l)
  | txt x t => exact o
theorem wpAny_iterAll {srcs : List Src} {Q : List Value → Shared → Prop} (ok : ∀ x ∈ srcs, x.ok s.heap)
    (hQ : ∀ h', (∀ b o, s.heap.get? b = some o → h'.get? b = some o) → h'.objs.size = s.heap.objs.size + srcs.length → (∀ p ∈ numb s.heap.objs.size srcs, p.2.St p.1 0 h') → Q (refs (numb s.heap.objs.size srcs)) { s with heap := h' }) :
    wpAny (model prog w) A (Builtin.SmallTypes.iterAll (srcs.map Src.val)) Q E s := by
  unfold Builtin.SmallTypes.iterAll
  refine wpAny_bind ?_
  refine wpAny_forIn_list _ (fun l b s' => ∃ done rest h', srcs = done ++ rest ∧ l = rest.map Src.val ∧ b = (refs (numb s.heap.objs.size done)).toArray ∧ s' = { s with heap := h' } ∧
    (∀ b o, s.heap.get? b = some o → h'.get? b = some o) ∧ h'.objs.size = s.heap.objs.size + done.length ∧ (∀ p ∈ numb s.heap.objs.size done, p.2.St p.1 0 h')) _ ?_ ?_ _ _ ?_
  · rintro v l b s' ⟨done, rest, h', e1, e2, rfl, rfl, keep, sz, st⟩
    cases rest with
    | nil => exact absurd e2 (by simp)
    | cons x r =>
      obtain ⟨rfl, rfl⟩ := List.cons.inj e2
      refine wpAny_bind (wpAny_holding (Src.make ((ok x (by rw [e1]; simp)).mono keep) fun o hS => wpAny_pure ?_))
      refine ⟨done ++ [x], r, h'.push o, by rw [e1]; simp, rfl, ?_, rfl, fun b o' e => Heap.get?_push_of_some _ (keep b o' e), by rw [Heap.size_push, sz]; simp [Nat.add_assoc], fun p hp => ?_⟩
      · rw [numb_snoc, ← sz]
        simp [refs]
      · rw [numb_snoc] at hp
        rcases List.mem_append.mp hp with hp | hp
        · exact (st p hp).frame fun b o' _ e => Heap.get?_push_of_some _ e
        · rw [List.mem_singleton.mp hp, ← sz]
          exact hS
  · rintro b s' ⟨done, rest, h', e1, e2, rfl, rfl, keep, sz, st⟩
    have : rest = [] := by
      cases rest with
      | nil => rfl
      | cons x r => exact absurd e2 (by simp)
    subst this
    rw [List.append_nil] at e1
    subst e1
    exact wpAny_pure (by simpa using hQ h' keep sz st)
  · exact ⟨[], srcs, s.heap, rfl, rfl, rfl, rfl, fun _ _ e => e, rfl, fun _ h => nomatch h⟩
theorem zip_new_run {srcs : List Src} {Q : Value → Shared → Prop} (ok : ∀ x ∈ srcs, x.ok s.heap) (hsmall : srcs.length ≤ 100)
    (hQ : ∀ h', (∀ b o, s.heap.get? b = some o → h'.get? b = some o) → ZSt (s.heap.objs.size + srcs.length + 2) (s.heap.objs.size + srcs.length) (s.heap.objs.size + srcs.length + 1) (numb s.heap.objs.size srcs) .none 0 h' →
      Q (.ref (s.heap.objs.size + srcs.length + 2)) { s with heap := h' }) :
    wpAny (model prog w) A (Builtin.«zip.__new__» ⟨.type "zip" :: srcs.map Src.val, []⟩) (fun fin s' => ∃ v, fin = .done (.ret v) ∧ Q v s') E s := by
  have hsub := sub_zip
  have hn : ∀ r : List Value, Builtin.SmallTypes.newClass "zip" ⟨.type "zip" :: r, []⟩ = pure (.type "zip", r) := by
    intro r
    unfold Builtin.SmallTypes.newClass
    have h1 : isType (.type "zip") = pure true := rfl
    simp only [h1, hsub, pure_bind, Bool.not_true, Bool.false_eq_true, if_false]
  unfold Builtin.«zip.__new__»
  rw [hn]
  refine wpAny_bind (wpAny_pure ?_)
  show wpAny _ _ (Builtin.SmallTypes.iterAll (srcs.map Src.val) >>= _) _ _ _
  refine wpAny_bind (wpAny_iterAll ok fun h₁ keep sz st => ?_)
  have hl := numb_length s.heap.objs.size srcs
  refine wpAny_bind (wpAny_newTuple ?_ (by rw [sizeLine_eq]; simp [refs]; lia))
  refine wpAny_bind (wpAny_newTuple ?_ (by rw [sizeLine_eq]; simp [refs]; lia))
  unfold Builtin.SmallTypes.newRecord
  dsimp only
  refine wpAny_bind (wpAny_newObj_type ?_ (Nat.le_of_ble_eq_true rfl))
  have z1 : (h₁.push { cls := .type "tuple", data := .seq (refs (numb s.heap.objs.size srcs)).toArray }).objs.size = s.heap.objs.size + srcs.length + 1 := by rw [Heap.size_push, sz]
  have hlt0 : ∀ {b : Addr} {o : Obj}, h₁.get? b = some o → b < s.heap.objs.size + srcs.length := fun e => by rw [← sz]; exact Heap.lt_size e
  refine wpAny_pure ⟨_, rfl, ?_⟩
  have e3 : ((h₁.push { cls := .type "tuple", data := .seq (refs (numb s.heap.objs.size srcs)).toArray }).push { cls := .type "tuple", data := .seq (List.map (fun _ => Value.none) (refs (numb s.heap.objs.size srcs))).toArray }).objs.size = s.heap.objs.size + srcs.length + 2 := by rw [Heap.size_push, z1]
  rw [e3]
  refine hQ _ (fun b o e => Heap.get?_push_of_some _ (Heap.get?_push_of_some _ (Heap.get?_push_of_some _ (keep b o e)))) ⟨?_, ?_, ⟨(refs (numb s.heap.objs.size srcs)).map fun _ => Value.none, ⟨0, ?_⟩, by simp [refs]⟩, fun p hp => (st p hp).frame fun b o _ e => Heap.get?_push_of_some _ (Heap.get?_push_of_some _ (Heap.get?_push_of_some _ e))⟩
  · rw [← e3]
    have g : ((h₁.push { cls := .type "tuple", data := .seq (refs (numb s.heap.objs.size srcs)).toArray }).push { cls := .type "tuple", data := .seq (List.map (fun _ => Value.none) (refs (numb s.heap.objs.size srcs))).toArray } |>.push { cls := .type "zip", data := .fields (Builtin.SmallTypes.ownedTupleFields ++ [Value.bool false, Value.ref h₁.objs.size, Value.ref (h₁.push { cls := .type "tuple", data := .seq (refs (numb s.heap.objs.size srcs)).toArray }).objs.size]).toArray }).get? ((h₁.push { cls := .type "tuple", data := .seq (refs (numb s.heap.objs.size srcs)).toArray }).push { cls := .type "tuple", data := .seq (List.map (fun _ => Value.none) (refs (numb s.heap.objs.size srcs))).toArray }).objs.size = some { cls := .type "zip", data := .fields (Builtin.SmallTypes.ownedTupleFields ++ [Value.bool false, Value.ref h₁.objs.size, Value.ref (h₁.push { cls := .type "tuple", data := .seq (refs (numb s.heap.objs.size srcs)).toArray }).objs.size]).toArray } := Heap.get?_push_size _ rfl
    refine g.trans ?_
    rw [z1, sz]
    rfl
  · rw [← sz]
    exact Heap.get?_push_of_some _ (Heap.get?_push_of_some _ (Heap.get?_push_size _ rfl))
  · rw [← z1]
    exact Heap.get?_push_of_some _ (Heap.get?_push_size _ rfl)
end

section
variable {prog : Program} {w : World} {A : Around} {E : Value → Shared → Prop} {s : Shared} {env : Env} {h₀ : Heap} {target : Expr} {body : List Stmt} {Q : Flow → Shared → Prop}
theorem turnsInv {I : Addr} {fp wr : List Addr} {n : Nat} {P Md : Nat → Value → Heap → Prop} {St : Nat → Heap → Prop} {ws : List (Addr × String)} {keep : Led} {m₀ : Str → Option Value} {news : Led} {hp : Heap} {tk0 : Nat}
    (W : KTurns prog w A target I fp wr n P Md St)
    (hobj : ∀ i h, St i h → ∃ its, Objs ws its ∧ ∀ p ∈ its, h.get? p.1 = some p.2)
    (hws : ∀ b ∈ ws.map (·.1), b ∈ fp ∧ h₀.get? b = none) (hwr : ∀ b ∈ wr, b ∈ ws.map (·.1))
    (hfp : ∀ b ∈ fp, b ∈ ws.map (·.1) ∨ (∃ o, (b, o) ∈ keep) ∨ ∃ o, h₀.get? b = some o) (hL : env.locals ∉ fp) (hnw : ∀ p ∈ news, p.1 ∉ wr) (hst : St 0 hp)
    (F : Fr h₀ env.locals hp m₀) (N : News h₀ env.locals hp news) (hk : ∀ p ∈ keep, p ∈ news)
    (J : Nat → (Str → Option Value) → Led → Prop) (start : J 0 m₀ news)
    (step : ∀ i m news, i < n → J i m news → ∀ v h tk, P i v h → Fr h₀ env.locals h m → AllObj ws (fun its => News h₀ env.locals h (its ++ news) →
      wpAny (model prog w) A (assign target env v) (fun _ s₂ => wpAny (model prog w) A (execs body env) (TurnP h₀ env.locals { s with heap := h, toks := tk } its (fun m' n' => (∀ p ∈ keep, p ∈ n') ∧ J (i + 1) m' n') Q) E s₂) E { s with heap := h, toks := tk }))
    (done : ∀ m news, J n m news → ∀ h tk, Fr h₀ env.locals h m → News h₀ env.locals h news → Q .next { s with heap := h, toks := tk }) :
    TurnsAt prog w A h₀ env target body Q E (.ref I) { s with heap := hp, toks := tk0 } := by
  refine ⟨I, fp, wr, n, P, Md, St, m₀, news, fun i m₁ news₁ => (∀ p ∈ keep, p ∈ news₁) ∧ J i m₁ news₁, rfl, W, hL, fun b hb => (hws b (hwr b hb)).2, hnw, hst, F, N, ⟨hk, start⟩, ?_, ?_⟩
  · intro i v m₁ news₁ h₁ tk₁ own hin hPi hJ hoff hown hget hall hst₁ F₁ N₁
    obtain ⟨hk₁, hJ⟩ := hJ
    obtain ⟨its, hits, hval⟩ := hobj (i + 1) h₁ hst₁
    have hmap := hits.map
    have N₂ : News h₀ env.locals h₁ (its ++ news₁) := fun p hp => by
      rcases List.mem_append.mp hp with hp | hp
      · have h1 : p.1 ∈ ws.map (·.1) := by rw [← hmap]; exact List.mem_map.mpr ⟨p, hp, rfl⟩
        exact N₁ _ (List.mem_append_left _ (hall p.1 (hws _ h1).1 (hws _ h1).2 p.2 (hval p hp)))
      · exact N₁ _ (List.mem_append_right _ hp)
    have fin : ∀ s₃, UnrEndW h₀ env.locals { s with heap := h₁, toks := tk₁ } its (fun m' n' => (∀ p ∈ keep, p ∈ n') ∧ J (i + 1) m' n') s₃ →
        LoopStepU h₀ env.locals wr own (fun m' n' => (∀ p ∈ keep, p ∈ n') ∧ J (i + 1) m' n') { s with heap := h₁, toks := tk₁ } .next s₃ := by
      rintro s₃ ⟨h', tk, m', news', e, F', N', ho, hk', r⟩
      refine ⟨rfl, h', tk, m', news', e, F', ?_, ?_, hk', r⟩
      · rintro ⟨pa, po⟩ hp
        rcases List.mem_append.mp hp with hp | hp
        · have h2 : h₁.get? pa = some po := hget _ hp
          rcases hfp pa (hown _ hp) with h3 | ⟨o, h3⟩ | ⟨o, h3⟩
          · have h4 : pa ∈ its.map (·.1) := by rw [hmap]; exact h3
            obtain ⟨⟨qa, qo⟩, hq, hqe⟩ := List.mem_map.mp h4
            have hqe' : qa = pa := hqe
            subst hqe'
            have h5 : h₁.get? qa = some qo := hval _ hq
            have h6 : qo = po := Option.some.inj (h5.symm.trans h2)
            subst h6
            exact N' _ (List.mem_append_left _ hq)
          · have h4 : h₁.get? pa = some o := (N₁ _ (List.mem_append_right _ (hk₁ _ h3))).1
            have h6 : o = po := Option.some.inj (h4.symm.trans h2)
            subst h6
            exact N' _ (List.mem_append_right _ (hk' _ h3))
          · have h4 := (N₁ _ (List.mem_append_left _ hp)).2.2
            have h4' : h₀.get? pa = none := h4
            rw [h4'] at h3; cases h3
        · exact N' _ (List.mem_append_right _ hp)
      · intro p hp hI
        have h4 : p.1 ∈ its.map (·.1) := by rw [hmap]; exact hwr _ hI
        obtain ⟨q, hq, hqe⟩ := List.mem_map.mp h4
        exact ho p hp q hq hqe.symm
    refine wpAny_mono ((step i m₁ news₁ hin hJ v h₁ tk₁ hPi F₁).at hits N₂) (fun _ s₂ h₂ => wpAny_mono h₂ (fun f s₃ p => ?_) fun _ _ e => e) fun _ _ e => e
    cases f with
    | ret v => exact .ret p
    | brk => exact .brk p
    | next => exact .next (fin _ p)
    | cont => exact .cont (fin _ p)
  · intro h' tk m' news' F' N' _ hJ
    exact done m' news' hJ.2 h' tk F' N'

theorem iter_strTurns {x : Str} {t : Tok} {nm : Str} {px : Pos} {m₀ : Str → Option Value} {news : Led} (hh : A.handled = none) (F : Fr h₀ env.locals s.heap m₀) (N : News h₀ env.locals s.heap news) (ha : x.cps.all (· < 128) = true)
    (J : (Str → Option Value) → Nat → (Str → Option Value) → Led → Prop) (start : J m₀ 0 m₀ news)
    (step : ∀ I, (∀ p ∈ news, p.1 < I) → ∀ i m news c u, x.cps[i]? = some c → J m₀ i m news → ∀ h tk, Fr h₀ env.locals h m → AllObj [(I, "str_ascii_iterator")] (fun its => News h₀ env.locals h (its ++ news) →
      wpAny (model prog w) A (assign (.Name nm px) env (.str ⟨#[c]⟩ u)) (fun _ s₂ => wpAny (model prog w) A (execs body env) (TurnP h₀ env.locals { s with heap := h, toks := tk } its (fun m' n' => (∀ p ∈ ([] : Led), p ∈ n') ∧ J m₀ (i + 1) m' n') Q) E s₂) E { s with heap := h, toks := tk }))
    (done : ∀ m news, J m₀ x.cps.size m news → ∀ h tk, Fr h₀ env.locals h m → News h₀ env.locals h news → Q .next { s with heap := h, toks := tk }) :
    wpAny (model prog w) A (pyIter (.str x t)) (fun it s₂ => TurnsAt prog w A h₀ env (.Name nm px) body Q E it s₂) E s := by
  refine wpAny_pyIter_ascii ha ?_
  have W := Walks.strAscii (prog := prog) (w := w) (A := A) hh s.heap.objs.size x t
  refine turnsInv (tk0 := s.toks) (ws := [(s.heap.objs.size, "str_ascii_iterator")]) (keep := []) (KTurns.ofWalks W fun i v s Q E st q => wpAny_pure q) ?_ ?_ ?_ ?_ ?_ ?_ ?_ (F.push _) (fun p hp => ⟨Heap.get?_push_of_some _ (N p hp).1, (N p hp).2⟩) (fun _ h => nomatch h) (J m₀) start ?_ done
  · intro i h st
    obtain ⟨it, hit, hic, _⟩ := st
    exact ⟨[(s.heap.objs.size, it)], ⟨⟨rfl, hic⟩, trivial⟩, fun p hp => by rw [List.mem_singleton.mp hp]; exact hit⟩
  · intro b hb
    have hb' : b = s.heap.objs.size := by simpa using hb
    rw [hb']
    exact ⟨List.mem_cons_self .., next_is_new F⟩
  · intro b hb
    simpa using hb
  · intro b hb
    exact .inl (by simpa using hb)
  · intro hI
    exact absurd F.ns.lt ((List.mem_singleton.mp hI) ▸ Nat.lt_irrefl _)
  · intro p hp hI
    exact absurd (Heap.lt_size (N p hp).1) ((List.mem_singleton.mp hI) ▸ Nat.lt_irrefl _)
  · exact ⟨_, Heap.get?_push_size _ rfl, rfl, rfl⟩
  · rintro i m news' hi hJ v h tk ⟨c, u, hc, rfl⟩ F'
    exact step _ (fun p hp => Heap.lt_size (N p hp).1) i m news' c u hc hJ h tk F'
end

def zws (I : Addr) (srcs : List Src) : List (Addr × String) :=
  (I + srcs.length + 2, "zip") :: (I + srcs.length, "tuple") :: (I + srcs.length + 1, "tuple") :: (numb I srcs).map fun p => (p.1, p.2.cls)
theorem objs_of {h : Heap} : ∀ {its : List (Addr × Src)}, (∀ p ∈ its, ∃ o : Obj, h.get? p.1 = some o ∧ o.cls = .type p.2.cls) → ∃ l : Led, Objs (its.map fun p => (p.1, p.2.cls)) l ∧ ∀ p ∈ l, h.get? p.1 = some p.2
  | [], _ => ⟨[], trivial, fun _ h => nomatch h⟩
  | q :: r, hx => by
    obtain ⟨l, a, b⟩ := objs_of fun p hp => hx p (.tail _ hp)
    obtain ⟨o, e, c⟩ := hx q (.head _)
    refine ⟨(q.1, o) :: l, ⟨⟨rfl, c⟩, a⟩, fun p hp => ?_⟩
    rcases List.mem_cons.mp hp with rfl | hp
    · exact e
    · exact b p hp
section
variable {prog : Program} {w : World} {A : Around} {E : Value → Shared → Prop} {s : Shared} {env : Env} {h₀ : Heap} {body : List Stmt} {Q : Flow → Shared → Prop}
theorem zipG_turns {elts : List Expr} {k : Nat} {pos : Pos} {args : List Value} {x : Src} {r : List Src} {keep news : Led} {m₀ : Str → Option Value} (hh : A.handled = none) (hargs : args = (x :: r).map Src.val)
    (hct : checkTypeCall "zip" ⟨args, []⟩ = pure ()) (hcn : checkBuiltinCall "zip.__new__" ⟨.type "zip" :: args, []⟩ = pure ()) (hok : ∀ obj, argsOk "object.__init__" ⟨obj :: args, []⟩)
    (F : Fr h₀ env.locals s.heap m₀) (N : News h₀ env.locals s.heap news) (hk : ∀ p ∈ keep, p ∈ news)
    (ok : ∀ y ∈ x :: r, y.ok s.heap) (hsmall : (x :: r).length ≤ 100) (hn : ∀ y ∈ x :: r, x.n ≤ y.n) (hfp : ∀ y ∈ x :: r, ∀ b ∈ y.fp, (∃ o, (b, o) ∈ keep) ∨ ∃ o, h₀.get? b = some o)
    (J : (Str → Option Value) → Nat → (Str → Option Value) → Led → Prop) (start : J m₀ 0 m₀ news)
    (step : ∀ I, (∀ p ∈ news, p.1 < I) → ∀ i m news T vals, i < x.n → Draws i (x :: r) vals → J m₀ i m news → ∀ h tk, IsTup h T vals.toArray → Fr h₀ env.locals h m → AllObj (zws I (x :: r)) (fun its => News h₀ env.locals h (its ++ news) →
      wpAny (model prog w) A (assign (.Tuple elts k pos) env (.ref T)) (fun _ s₂ => wpAny (model prog w) A (execs body env) (TurnP h₀ env.locals { s with heap := h, toks := tk } its (fun m' n' => (∀ p ∈ keep, p ∈ n') ∧ J m₀ (i + 1) m' n') Q) E s₂) E { s with heap := h, toks := tk }))
    (done : ∀ m news, J m₀ x.n m news → ∀ h tk, Fr h₀ env.locals h m → News h₀ env.locals h news → Q .next { s with heap := h, toks := tk }) :
    wpAny (model prog w) A (call (.type "zip") args) (fun xv s₁ => wpAny (model prog w) A (pyIter xv) (fun it s₂ => TurnsAt prog w A h₀ env (.Tuple elts k pos) body Q E it s₂) E s₁) E s := by
  subst hargs
  refine callType_new PySem.F.called_zip (by decide) hct hcn hok PySem.F.entry_zip_new (S := fun _ R s₁ => s₁ = s ∧ ∀ h', (∀ b o, s.heap.get? b = some o → h'.get? b = some o) → ZSt (s.heap.objs.size + (x :: r).length + 2) (s.heap.objs.size + (x :: r).length) (s.heap.objs.size + (x :: r).length + 1) (numb s.heap.objs.size (x :: r)) .none 0 h' → R (.ok (.ret (.ref (s.heap.objs.size + (x :: r).length + 2)))) { s with heap := h' }) ?_ ?_
  · refine .of_wp fun prog w A R s₁ h => ?_
    obtain ⟨rfl, h⟩ := h
    exact zip_new_run ok hsmall h
  refine ⟨rfl, fun h' keepH zst => ?_⟩
  have lt2 : ∀ {b : Addr} {o : Obj}, s.heap.get? b = some o → b < s.heap.objs.size := fun e => Heap.lt_size e
  have hn1 : (x :: r).length = r.length + 1 := rfl
  refine ⟨⟨_, zst.z, rfl⟩, ?_⟩
  refine wpAny_pyIter_zip zst.z ?_
  have hfpL : ∀ p ∈ numb s.heap.objs.size (x :: r), ∀ b ∈ p.2.fp, b < s.heap.objs.size ∧ b ≠ env.locals := by
    intro p hp b hb
    obtain ⟨_, _, h3⟩ := numb_mem hp
    rcases hfp p.2 h3 b hb with ⟨o, ho⟩ | ⟨o, ho⟩
    · have := N _ (hk _ ho)
      exact ⟨lt2 this.1, this.2.1⟩
    · exact ⟨lt2 (F.keep _ _ ho), fun e => Nat.ne_of_lt (Nat.lt_of_lt_of_le (Heap.lt_size ho) F.above) e⟩
  have D : ZA (s.heap.objs.size + (x :: r).length + 2) (s.heap.objs.size + (x :: r).length) (s.heap.objs.size + (x :: r).length + 1) (numb s.heap.objs.size (x :: r)) := by
    refine ⟨?_, ?_, ?_, numb_pair _ _, fun p hp => ?_⟩
    · exact Nat.ne_of_lt (by lia)
    · exact Nat.ne_of_lt (by lia)
    · exact Nat.ne_of_lt (by lia)
    · obtain ⟨h1, h2, h3⟩ := numb_mem hp
      refine ⟨Nat.ne_of_lt (Nat.lt_of_lt_of_le h2 (by lia)), Nat.ne_of_lt (Nat.lt_of_lt_of_le h2 (by lia)), Nat.ne_of_lt (Nat.lt_of_lt_of_le h2 (Nat.le_refl _)), fun b hb => ?_⟩
      have hb' := (hfpL p hp b hb).1
      refine ⟨Nat.ne_of_lt (Nat.lt_of_lt_of_le hb' (by lia)), Nat.ne_of_lt (Nat.lt_of_lt_of_le hb' (by lia)), fun q hq => Nat.ne_of_lt (Nat.lt_of_lt_of_le hb' (numb_mem hq).1)⟩
  have hcons : numb s.heap.objs.size (x :: r) = (s.heap.objs.size, x) :: numb (s.heap.objs.size + 1) r := rfl
  have hmap : ∀ (a : Nat) (l : List Src), (numb a l).map (·.2) = l := by
    intro a l
    induction l generalizing a with
    | nil => rfl
    | cons y l ih => show y :: (numb (a + 1) l).map (·.2) = y :: l; rw [ih]
  have W := WalksU.zipG (prog := prog) (w := w) (A := A) hh (its := numb (s.heap.objs.size + 1) r) (q := (s.heap.objs.size, x)) D (by show (numb s.heap.objs.size (x :: r)).length ≤ 100; rw [numb_length]; exact hsmall) (fun p hp => hn p.2 (numb_mem (l := x :: r) hp).2.2)
  rw [← hcons] at W
  have hLs : env.locals < s.heap.objs.size := F.ns.lt
  have F' := F.keeps keepH
  have N' := News.grown N keepH
  have wsNew : ∀ b ∈ (zws s.heap.objs.size (x :: r)).map (·.1), s.heap.objs.size ≤ b := by
    intro b hb
    simp only [zws, List.map_cons, List.mem_cons, List.map_map] at hb
    rcases hb with rfl | rfl | rfl | hb
    · lia
    · lia
    · lia
    · obtain ⟨p, hp, rfl⟩ := List.mem_map.mp hb
      exact (numb_mem hp).1
  refine turnsInv (tk0 := s.toks) (ws := zws s.heap.objs.size (x :: r)) (keep := keep) (KTurns.ofWalksU W.bound) ?_ ?_ ?_ ?_ ?_ ?_ zst F' N' hk (J m₀) start ?_ done
  · intro i h st
    obtain ⟨old, ⟨n, ho⟩, _⟩ := st.tov
    obtain ⟨l, a, b⟩ := objs_of fun p hp => (st.st p hp).here
    have e1 : ∃ o : Obj, h.get? (s.heap.objs.size + (x :: r).length + 2) = some o ∧ o.cls = .type "zip" := ⟨_, st.z, rfl⟩
    have e2 : ∃ o : Obj, h.get? (s.heap.objs.size + (x :: r).length) = some o ∧ o.cls = .type "tuple" := ⟨_, st.ti, rfl⟩
    have e3 : ∃ o : Obj, h.get? (s.heap.objs.size + (x :: r).length + 1) = some o ∧ o.cls = .type "tuple" := ⟨_, ho, rfl⟩
    obtain ⟨q1, g1, k1⟩ := e1
    obtain ⟨q2, g2, k2⟩ := e2
    obtain ⟨q3, g3, k3⟩ := e3
    refine ⟨(_, q1) :: (_, q2) :: (_, q3) :: l, ⟨⟨rfl, k1⟩, ⟨rfl, k2⟩, ⟨rfl, k3⟩, a⟩, fun p hp => ?_⟩
    rcases List.mem_cons.mp hp with rfl | hp
    · exact g1
    rcases List.mem_cons.mp hp with rfl | hp
    · exact g2
    rcases List.mem_cons.mp hp with rfl | hp
    · exact g3
    exact b p hp
  · intro b hb
    refine ⟨?_, ktu_new F (wsNew b hb)⟩
    simp only [zws, List.map_cons, List.mem_cons, List.map_map] at hb
    rcases hb with rfl | rfl | rfl | hb
    · simp [zfp]
    · simp [zfp]
    · simp [zfp]
    · exact List.mem_append_right _ (List.mem_append_left _ hb)
  · intro b hb
    rcases List.mem_append.mp hb with hb | hb
    · have hb' : b = s.heap.objs.size + (x :: r).length + 2 ∨ b = s.heap.objs.size + (x :: r).length + 1 := by simpa using hb
      rcases hb' with rfl | rfl <;> simp [zws]
    · simp only [zws, List.map_cons, List.mem_cons, List.map_map]
      exact .inr (.inr (.inr hb))
  · intro b hb
    rcases List.mem_append.mp hb with hb | hb
    · have hb' : b = s.heap.objs.size + (x :: r).length + 2 ∨ b = s.heap.objs.size + (x :: r).length ∨ b = s.heap.objs.size + (x :: r).length + 1 := by simpa using hb
      rcases hb' with rfl | rfl | rfl <;> (left; simp [zws])
    rcases List.mem_append.mp hb with hb | hb
    · left
      simp only [zws, List.map_cons, List.mem_cons, List.map_map]
      exact .inr (.inr (.inr hb))
    · obtain ⟨p, hp, hb⟩ := List.mem_flatMap.mp hb
      exact .inr (hfp p.2 (numb_mem hp).2.2 b hb)
  · intro hI
    rcases List.mem_append.mp hI with hb | hb
    · have hb' : env.locals = s.heap.objs.size + (x :: r).length + 2 ∨ env.locals = s.heap.objs.size + (x :: r).length ∨ env.locals = s.heap.objs.size + (x :: r).length + 1 := by simpa using hb
      rcases hb' with e | e | e
      · exact Nat.ne_of_lt (Nat.lt_of_lt_of_le hLs (by lia)) e
      · exact Nat.ne_of_lt (Nat.lt_of_lt_of_le hLs (by lia)) e
      · exact Nat.ne_of_lt (Nat.lt_of_lt_of_le hLs (by lia)) e
    rcases List.mem_append.mp hb with hb | hb
    · obtain ⟨p, hp, e⟩ := List.mem_map.mp hb
      exact Nat.ne_of_lt (Nat.lt_of_lt_of_le hLs (numb_mem hp).1) e.symm
    · obtain ⟨p, hp, hb⟩ := List.mem_flatMap.mp hb
      exact (hfpL p hp _ hb).2 rfl
  · intro p hp hI
    have hlp := Heap.lt_size (N p hp).1
    rcases List.mem_append.mp hI with hb | hb
    · have hb' : p.1 = s.heap.objs.size + (x :: r).length + 2 ∨ p.1 = s.heap.objs.size + (x :: r).length + 1 := by simpa using hb
      rcases hb' with e | e
      · exact Nat.ne_of_lt (Nat.lt_of_lt_of_le hlp (by lia)) e
      · exact Nat.ne_of_lt (Nat.lt_of_lt_of_le hlp (by lia)) e
    · obtain ⟨q, hq, e⟩ := List.mem_map.mp hb
      exact Nat.ne_of_lt (Nat.lt_of_lt_of_le hlp (numb_mem hq).1) e.symm
  · rintro i m news' hi hJ v h tk ⟨T, vals, rfl, ⟨_, hd⟩, hT⟩ F'
    rw [hmap] at hd
    exact step _ (fun p hp => Heap.lt_size (N p hp).1) i m news' T vals.toList hi hd hJ h tk hT F'
end

theorem zws2 (I : Addr) (x y : Src) : zws I [x, y] = [(I + 4, "zip"), (I + 2, "tuple"), (I + 3, "tuple"), (I, x.cls), (I + 1, y.cls)] := rfl
theorem clsNe {h₀ h : Heap} {L : Addr} {l : Led} {p q : Addr × Obj} (N : News h₀ L h l) (hp : p ∈ l) (hq : q ∈ l) (hc : p.2.cls ≠ q.2.cls) : p.1 ≠ q.1 := fun e => by
  have h1 := (N p hp).1
  have h2 := (N q hq).1
  rw [e] at h1
  exact hc (congrArg Obj.cls (Option.some.inj (h1.symm.trans h2)))
theorem clsOff {h₀ h : Heap} {L : Addr} {l ps qs : Led} (N : News h₀ L h l) (hp : ∀ p ∈ ps, p ∈ l) (hq : ∀ q ∈ qs, q ∈ l) (hc : ∀ p ∈ ps, p.2.cls = .type "list") (hd : ∀ q ∈ qs, q.2.cls ≠ .type "list") : ∀ p ∈ ps, ∀ q ∈ qs, p.1 ≠ q.1 :=
  fun p a q b => clsNe N (hp p a) (hq q b) (by rw [hc p a]; exact (hd q b).symm)
/- lists behind references -/
theorem intsGetK : ∀ {vs : List Value} {ks : List Int} {i : Nat} {v : Value}, IntsAre vs ks → vs[i]? = some v → ∃ k t, ks[i]? = some k ∧ v = Value.int k t
  | _, _, _, _, .nil, h => by simp at h
  | _, _, 0, _, .cons k t _, h => ⟨k, t, rfl, by simpa using h.symm⟩
  | _, _, i + 1, _, .cons _ _ r, h => by
    obtain ⟨k, t, a, b⟩ := intsGetK r (i := i) (by simpa using h)
    exact ⟨k, t, by simpa using a, b⟩

def Stop (P : Prop) : Prop := P
theorem stopHere {P : Prop} (h : Stop P) : P := h
theorem Stop.go {P : Prop} (h : P) : Stop P := h
section
variable {prog : Program} {w : World} {A : Around} {E : Value → Shared → Prop} {s : Shared} {h₀ : Heap} {L : Addr} {m : Str → Option Value} {env : Env}
open LCg in
/- a comprehension whose element makes nothing that stays -/
theorem comp_map {elt : Expr} {x : Str} {scope : Scope} {cl : List (Str × Addr)} {S : Led → Prop} {P : Nat → Value → Prop} {Fin : List Value → Led → Prop} {news : Led} (Rel : Nat → Value → Prop) (hS : S news)
    {n : Nat} (fin : ∀ ys, ys.length = n → (∀ i y, ys[i]? = some y → Rel i y) → Fin ys news)
    (step : ∀ i v I oI C oC D m₂ h tk (E' : Value → Shared → Prop) ys, P i v → NsObj oC m₂ → m₂ x = some v → Fr h₀ L h m → News h₀ L h ((I, oI) :: (C, oC) :: (D, lst ys) :: news) → Off3 I C D news → ((@Ne Nat I C) ∧ (@Ne Nat I D) ∧ (@Ne Nat C D)) →
      wpAny (model prog w) A (eval elt (compEnvC scope cl C env)) (fun y s₂ => ∃ h' tk', s₂ = { s with heap := h', toks := tk' } ∧ Fr h₀ L h' m ∧ News h₀ L h' ((I, oI) :: (C, oC) :: (D, lst ys) :: news) ∧ Rel i y) E' { s with heap := h, toks := tk }) :
    ∀ k i ys, i + k = n → ys.length = i → (∀ j y, ys[j]? = some y → Rel j y) → CompRest prog w A h₀ L m env elt x scope cl s S P Fin k i ys news
  | 0, i, ys, hn, hl, hr => fin ys (hl.trans hn) hr
  | k + 1, i, ys, hn, hl, hr => CompRest.succ fun v I oI C oC D m₂ h tk E' hP hC hx F N off ne => by
    refine wpAny_mono (step i v I oI C oC D m₂ h tk E' ys hP hC hx F N off ne) (fun y s₂ hy => ?_) fun _ _ e => e
    obtain ⟨h', tk', rfl, F', N', hrel⟩ := hy
    refine ⟨h', tk', news, rfl, F', N', off, hS, comp_map Rel hS fin step k (i + 1) (ys ++ [y]) (by lia) (by simp [hl]) fun j z hz => ?_⟩
    rcases Nat.lt_or_ge j i with hj | hj
    · rw [List.getElem?_append_left (by lia)] at hz
      exact hr j z hz
    · rw [List.getElem?_append_right (by lia)] at hz
      have : j - ys.length = 0 := by
        rcases Nat.eq_zero_or_pos (j - ys.length) with h | h
        · exact h
        · rw [List.getElem?_eq_none (by simp; lia)] at hz; cases hz
      rw [this] at hz
      have e1 : y = z := by simpa using hz
      have e2 : j = i := by lia
      rw [← e1, e2]
      exact hrel
end
/- a list of texts -/
inductive Txts : List Value → List Str → Prop
  | nil : Txts [] []
  | cons (x : Str) (t : Tok) {vs : List Value} {xs : List Str} (h : Txts vs xs) : Txts (.str x t :: vs) (x :: xs)
theorem Txts.length : ∀ {vs : List Value} {xs : List Str}, Txts vs xs → vs.length = xs.length
  | _, _, .nil => rfl
  | _, _, .cons _ _ h => congrArg (· + 1) h.length
theorem Txts.append : ∀ {vs : List Value} {xs : List Str} {vs' : List Value} {xs' : List Str}, Txts vs xs → Txts vs' xs' → Txts (vs ++ vs') (xs ++ xs')
  | _, _, _, _, .nil, h => h
  | _, _, _, _, .cons x t h, h' => .cons x t (h.append h')
theorem Txts.get : ∀ {vs : List Value} {xs : List Str} {i : Nat} {v : Value}, Txts vs xs → vs[i]? = some v → ∃ x t, xs[i]? = some x ∧ v = Value.str x t
  | _, _, _, _, .nil, h => by simp at h
  | _, _, 0, _, .cons x t _, h => ⟨x, t, rfl, by simpa using h.symm⟩
  | _, _, i + 1, _, .cons _ _ r, h => by
    obtain ⟨x, t, a, b⟩ := r.get (i := i) (by simpa using h)
    exact ⟨x, t, by simpa using a, b⟩
theorem Txts.of : ∀ {ys : List Value} {xs : List Str}, ys.length = xs.length → (∀ (i : Nat) (y : Value), ys[i]? = some y → ∃ x t, xs[i]? = some x ∧ y = Value.str x t) → Txts ys xs
  | [], [], _, _ => .nil
  | [], _ :: _, h, _ => nomatch h
  | _ :: _, [], h, _ => nomatch h
  | y :: ys, x :: xs, hl, h => by
    obtain ⟨x', t, a, rfl⟩ := h 0 y rfl
    have e : x = x' := by simpa using a
    subst e
    exact .cons _ t (Txts.of (by simpa using hl) fun i z hz => by
      obtain ⟨q, t, a, b⟩ := h (i + 1) z (by simpa using hz)
      exact ⟨q, t, by simpa using a, b⟩)
/- the reader's state -/
structure PS where
  res : List Str
  part : Str
  esc : Bool
  quo : Bool
def isC (c : Nat) (z : Str) : Bool := ((⟨#[c]⟩ : Str) == z)
def PS.step (p : PS) (c : Nat) : PS :=
  if p.esc then { p with part := p.part ++ ⟨#[c]⟩, esc := false }
  else if p.quo then
    if isC c (Str.ofString "\\") then { p with esc := true }
    else if isC c (Str.ofString "\"") then { p with quo := false, part := p.part ++ ⟨#[c]⟩ }
    else { p with part := p.part ++ ⟨#[c]⟩ }
  else if isC c (Str.ofString ",") then { p with res := p.res ++ [p.part], part := Str.ofString "" }
  else if isC c (Str.ofString "\"") then { p with quo := true, part := p.part ++ ⟨#[c]⟩ }
  else { p with part := p.part ++ ⟨#[c]⟩ }
def PS.run (p : PS) (cs : List Nat) : PS := cs.foldl PS.step p
def PS.fin (p : PS) : List Str := if p.part.cps.size = 0 then p.res else p.res ++ [p.part]
def PS.start : PS := ⟨[], Str.ofString "", false, false⟩
theorem PS.step_part (p : PS) (c : Nat) : (p.step c).part.cps.size ≤ p.part.cps.size + 1 := by
  have h : (p.part ++ (⟨#[c]⟩ : Str)).cps.size = p.part.cps.size + 1 := by
    show (p.part.cps ++ #[c]).size = _
    simp
  unfold PS.step
  repeat' split
  all_goals first | (show (p.part ++ _).cps.size ≤ _; lia) | (show p.part.cps.size ≤ _; lia) | (show 0 ≤ _; lia)
theorem Txts.append1 {vs : List Value} {xs : List Str} (h : Txts vs xs) (x : Str) (t : Tok) : Txts (vs ++ [.str x t]) (xs ++ [x]) := h.append (.cons x t .nil)
theorem PS.step_small {N : Nat} (p : PS) (c : Nat) (h : ∀ y ∈ p.res, y.cps.size ≤ N) (hp : p.part.cps.size ≤ N) : ∀ y ∈ (p.step c).res, y.cps.size ≤ N := by
  have key : (p.step c).res = p.res ∨ (p.step c).res = p.res ++ [p.part] := by
    unfold PS.step
    repeat' split
    all_goals first | exact .inl rfl | exact .inr rfl
  intro y hy
  rcases key with e | e
  · rw [e] at hy; exact h y hy
  · rw [e] at hy
    rcases List.mem_append.mp hy with hy | hy
    · exact h y hy
    · rw [List.mem_singleton.mp hy]; exact hp
theorem PS.run_small (N : Nat) : ∀ (cs : List Nat) (p : PS), (∀ y ∈ p.res, y.cps.size ≤ N) → p.part.cps.size + cs.length ≤ N → ∀ y ∈ (p.run cs).res, y.cps.size ≤ N
  | [], _, h, _ => h
  | c :: cs, p, h, hp => by
    have h1 := PS.step_part p c
    have hp' : p.part.cps.size + (cs.length + 1) ≤ N := hp
    exact PS.run_small N cs (p.step c) (p.step_small c h (by lia)) (by lia)
section
variable {prog : Program} {w : World} {A : Around} {E : Value → Shared → Prop} {s : Shared} {h₀ : Heap} {L : Addr} {m : Str → Option Value} {Q : Value → Shared → Prop}
theorem add_txts {a b : Addr} {vs ws : List Value} {xs ys : List Str} {news : Led} (F : Fr h₀ L s.heap m) (N : News h₀ L s.heap news) (ha : s.heap.IsList a vs.toArray) (hb : s.heap.IsList b ws.toArray) (hx : Txts vs xs) (hy : Txts ws ys)
    (h : ∀ D zs h', Txts zs (xs ++ ys) → Fr h₀ L h' m → News h₀ L h' ((D, W.listOf (List.toArray zs) 0) :: news) → (∀ p ∈ news, p.1 < D) → Q (.ref D) { s with heap := h' })
    (hz : xs.length + ys.length ≤ sizeLine) : wpAny (model prog w) A (binaryOp .Add (.ref a) (.ref b)) Q E s :=
  kmk_add_lit (zs := vs ++ ws) F N ha hb (by simp) (fun D h' => h D _ h' (hx.append hy)) (by simpa [hx.length, hy.length] using hz)
end
section
variable {prog : Program} {w : World} {A : Around} {E : Value → Shared → Prop} {s : Shared} {h₀ : Heap} {L : Addr} {m : Str → Option Value} {Q : Value → Shared → Prop}
end
theorem intsOf : ∀ {ys : List Value} {xs : List Int}, ys.length = xs.length → (∀ (i : Nat) (y : Value), ys[i]? = some y → ∃ k t, xs[i]? = some k ∧ y = Value.int k t) → IntsAre ys xs
  | [], [], _, _ => .nil
  | [], _ :: _, h, _ => nomatch h
  | _ :: _, [], h, _ => nomatch h
  | y :: ys, x :: xs, hl, h => by
    obtain ⟨x', t, a, rfl⟩ := h 0 y rfl
    have e : x = x' := by simpa using a
    subst e
    exact .cons _ t (intsOf (by simpa using hl) fun i z hz => by
      obtain ⟨q, t, a, b⟩ := h (i + 1) z (by simpa using hz)
      exact ⟨q, t, by simpa using a, b⟩)

theorem strsOf : ∀ {vs : List Value} {xs : List Str}, Txts vs xs → StrsAre vs xs
  | _, _, .nil => .nil
  | _, _, .cons x t r => .cons x t (strsOf r)
theorem join_toList : ∀ xs : List Str, (Txt.join (Str.ofString "") xs).cps.toList = xs.flatMap fun x => x.cps.toList := by
  have key : ∀ xs : List Str, (Str.join (Str.ofString "") xs).cps.toList = xs.flatMap fun x => x.cps.toList := by
    intro xs
    induction xs with
    | nil => rfl
    | cons x r ih =>
      cases r with
      | nil => show x.cps.toList = _; simp
      | cons y r =>
        show ((x.cps ++ (Str.ofString "").cps) ++ (Str.join (Str.ofString "") (y :: r)).cps).toList = _
        rw [Array.toList_append, ih, List.flatMap_cons, Array.toList_append]
        have e : (Str.ofString "").cps.toList = [] := by decide
        rw [e, List.append_nil]
        simp only [List.flatMap_cons]
  intro xs
  show (Builtin.Str.glued (Str.ofString "") xs).cps.toList = _
  rw [StrLaws.glued_eq_join]
  exact key xs
/- texts of k signs each, all ascii -/
section
variable {prog : Program} {w : World} {A : Around} {E : Value → Shared → Prop} {s : Shared} {h₀ : Heap} {L D : Addr} {m : Str → Option Value} {news news' : Led} {vs : List Value} {n : Nat} {k : Int} {t u : Tok} {v : Value}
theorem joinK {D : Addr} {vs : List Value} {xs : List Str} {x : Str} {t : Tok} {Q : Value → Shared → Prop} (hl : s.heap.IsList D vs.toArray) (ht : Txts vs xs) (hsep : x.length ≤ 16) (hw : (xs.map (·.length)).sum + xs.length ≤ 1048576)
    (h : ∀ t' k, Q (.str (Txt.join x xs) t') { s with toks := k }) : wpAny (model prog w) A (call (.builtin "str.join") [.str x t, .ref D]) Q E s := join_listW hl (strsOf ht) hsep hw h
end

open LCg in
inductive CEnd (h₀ : Heap) (L : Addr) (m : Str → Option Value) (s₁ : Shared) (its : Led) (C : Addr) (oC : Obj) (D : Addr) (ys : List Value) (news : Led) (J : Led → Prop) (s₂ : Shared) : Prop
  | mk (h' : Heap) (tk : Nat) (gr : Led) (e : s₂ = { s₁ with heap := h', toks := tk }) (F : Fr h₀ L h' m) (N : News h₀ L h' (its ++ (C, oC) :: (D, lst ys) :: (gr ++ news))) (off : ∀ p ∈ gr ++ news, (∀ q ∈ its, p.1 ≠ q.1) ∧ p.1 ≠ C ∧ p.1 ≠ D) (hJ : J gr)
open LCg in
/- the end of a comprehension -/
def CFin (h₀ : Heap) (L : Addr) (m : Str → Option Value) (s₂ : Shared) (news : Led) (J : List Value → Led → Prop) (Q : Value → Shared → Prop) : Prop :=
  ∀ D h tk ys gr, Fr h₀ L h m → News h₀ L h ((D, lst ys) :: (gr ++ news)) → (∀ p ∈ gr ++ news, p.1 ≠ D) → J ys gr → Q (.ref D) { s₂ with heap := h, toks := tk }
open LCg in
abbrev ctests (ifs : List Expr) (env : Env) : Sem Bool := forIn ifs true fun c r => if r = true then do let ok ← isTrue c env (eval c env); pure (ForInStep.yield ok) else pure (ForInStep.yield r)
section
variable {prog : Program} {w : World} {A : Around} {E : Value → Shared → Prop} {s : Shared} {h₀ : Heap} {L : Addr} {m : Str → Option Value} {env : Env}
theorem gen_loop {elt target iter : Expr} {ifs : List Expr} {scope : Scope} {pos : Pos} {it acc : Value} {env : Env} {R : Result → Shared → Prop} (I : Nat → Shared → Prop)
    (turn : ∀ n s, I n s → wpAny (model prog w) A (pyNext it) (fun r s₁ => match r with
      | none => R (.ok .next) s₁
      | some v => wpAny (model prog w) A (letOwnedTupleGo target it v) (fun _ s₀ => wpAny (model prog w) A (assign target env v) (fun _ s₂ =>
          wpAny (model prog w) A (ctests ifs env) (fun ok s₃ =>
            if ok = true then wpAny (model prog w) A (eval elt env) (fun x s₄ =>
              wpAny (model prog w) A (call (.builtin "list.append") [acc, x]) (fun _ s₅ => ∃ m, m < n ∧ I m s₅) (notedBy (model prog w) A env fun e s' => R (.error e) s') s₄) (notedBy (model prog w) A env fun e s' => R (.error e) s') s₃
            else ∃ m, m < n ∧ I m s₃) (notedBy (model prog w) A env fun e s' => R (.error e) s') s₂)
          (notedBy (model prog w) A env fun e s' => R (.error e) s') s₀) (notedBy (model prog w) A env fun e s' => R (.error e) s') s₁) (notedBy (model prog w) A env fun e s' => R (.error e) s') s)
    (n : Nat) (h : I n s) : codeAny (model prog w) A (.compLoop (.ListComp elt [⟨target, iter, ifs, 0⟩] scope pos) 0 it acc env) R s := by
  refine codeAny_loop rfl I (fun n s hI => ?_) n h
  show wpAny _ A ((compTurn (.ListComp elt [⟨target, iter, ifs, 0⟩] scope pos) 0 it acc env).onRaise (fun x => do noteFrame x env; theTreesLotGoes x)) _ _ s
  refine wpAny_noted ?_
  rw [compTurn_list]
  refine wpAny_bind (wpAny_standAt (wpAny_bind (wpAny_mono (turn n s hI) (fun r s₁ h₁ => ?_) fun _ _ h' => h')))
  cases r with
  | none => exact wpAny_pure h₁
  | some v =>
    refine wpAny_bind (wpAny_mono h₁ (fun _ s₀ h₀' => ?_) fun _ _ h' => h')
    refine wpAny_bind (wpAny_mono h₀' (fun _ s₂ h₂ => wpAny_bind (wpAny_mono h₂ (fun ok s₃ h₃ => ?_) fun _ _ h' => h')) fun _ _ h' => h')
    cases ok with
    | false => exact wpAny_pure ⟨rfl, h₃⟩
    | true =>
      exact wpAny_bind (wpAny_bind (wpAny_mono h₃ (fun x s₄ h₄ => wpAny_bind (wpAny_mono h₄ (fun _ s₅ h₅ => wpAny_pure (wpAny_pure ⟨rfl, h₅⟩)) fun _ _ h' => h')) fun _ _ h' => h'))

open LCg in
/- what a comprehension's source brings -/
inductive CompAt (prog : Program) (w : World) (A : Around) (h₀ : Heap) (L : Addr) (m : Str → Option Value) (env : Env) (tgt elt : Expr) (ifs : List Expr) (scope : Scope) (cl : List (Str × Addr)) (FinP : Shared → Led → (List Value → Led → Prop) → Prop) (it : Value) (s₂ : Shared) : Prop
  | mk (I : Addr) (fp wr : List Addr) (n : Nat) (P Md : Nat → Value → Heap → Prop) (St : Nat → Heap → Prop) (ws : List (Addr × String)) (keep news : Led) (B : Nat → (Str → Option Value) → Prop) (J : Nat → List Value → Led → Prop)
    (h1 : it = .ref I)
    (h2 : KTurns prog w A tgt I fp wr n P Md St)
    (h3 : (∀ (s : Shared) (Q : Value → Shared → Prop) (E : Value → Shared → Prop), St 0 s.heap → Q (.ref I) s → wpAny (model prog w) A (pyIter (.ref I)) Q E s))
    (h4 : (∀ i h, St i h → ∃ its, Objs ws its ∧ ∀ p ∈ its, h.get? p.1 = some p.2))
    (h5 : (∀ b ∈ ws.map (·.1), b ∈ fp ∧ h₀.get? b = none))
    (h6 : (∀ b ∈ wr, b ∈ ws.map (·.1)))
    (h7 : (∀ b ∈ fp, b ∈ ws.map (·.1) ∨ (∃ o, (b, o) ∈ keep) ∨ ∃ o, h₀.get? b = some o))
    (h8 : L ∉ fp)
    (h9 : (∀ p ∈ news, p.1 ∉ ws.map (·.1)))
    (h10 : (∀ p ∈ keep, p ∈ news))
    (h11 : n ≤ sizeLine)
    (h12 : St 0 s₂.heap)
    (h13 : Fr h₀ L s₂.heap m)
    (h14 : News h₀ L s₂.heap news)
    (h15 : J 0 [] [])
    (h16 : (∀ C i v (s : Shared) m' (Q : Unit → Shared → Prop) (E : Value → Shared → Prop), P i v s.heap → s.heap.Ns C m' → (∀ p ∈ news, s.heap.get? p.1 = some p.2) → (∀ b o, h₀.get? b = some o → s.heap.get? b = some o) →
      (∀ h' tk m₂, h'.Ns C m₂ → B i m₂ → (∀ c o, c ≠ C → s.heap.get? c = some o → h'.get? c = some o) → Q () { s with heap := h', toks := tk }) → wpAny (model prog w) A (assign tgt (compEnvC scope cl C env) v) Q E s))
    (h17 : (∀ C oC D i ys gr m₂ h tk (E' : Value → Shared → Prop), i < n → ys.length ≤ i → B i m₂ → NsObj oC m₂ → J i ys gr → Fr h₀ L h m → @Ne Nat C D → (∀ p ∈ gr ++ news, p.1 ≠ C ∧ p.1 ≠ D) →
      AllObj ws (fun its => (∀ q ∈ its, @Ne Nat q.1 C ∧ @Ne Nat q.1 D) → (∀ p ∈ gr ++ news, ∀ q ∈ its, p.1 ≠ q.1) → News h₀ L h (its ++ (C, oC) :: (D, lst ys) :: (gr ++ news)) →
        wpAny (model prog w) A (ctests ifs (compEnvC scope cl C env)) (fun ok s₃ =>
          if ok = true then wpAny (model prog w) A (eval elt (compEnvC scope cl C env)) (fun y s₄ => CEnd h₀ L m { s₂ with heap := h, toks := tk } its C oC D ys news (J (i + 1) (ys ++ [y])) s₄) E' s₃
          else CEnd h₀ L m { s₂ with heap := h, toks := tk } its C oC D ys news (J (i + 1) ys) s₃) E' { s₂ with heap := h, toks := tk })))
    (h18 : FinP s₂ news (J n))
    : CompAt prog w A h₀ L m env tgt elt ifs scope cl FinP it s₂

open LCg in
/- the turns of a comprehension -/
inductive CI (h₀ : Heap) (L : Addr) (m : Str → Option Value) (s₂ : Shared) (C : Addr) (ws : List (Addr × String)) (n : Nat) (St : Nat → Heap → Prop) (news : Led) (J : Nat → List Value → Led → Prop) (k : Nat) (s' : Shared) : Prop
  | mk (h' : Heap) (tk i : Nat) (ys : List Value) (m' : Str → Option Value) (gr : Led) (e1 : s' = { s₂ with heap := h', toks := tk }) (hi : i ≤ n) (e2 : k = n + 1 - i) (hyl : ys.length ≤ i) (hst : St i h') (F : Fr h₀ L h' m) (hn : h'.Ns C m') (N : News h₀ L h' ((s₂.heap.objs.size, lst ys) :: (gr ++ news)))
    (off : ∀ p ∈ gr ++ news, p.1 ∉ ws.map (·.1) ∧ p.1 ≠ C ∧ p.1 ≠ s₂.heap.objs.size) (hJ : J i ys gr)
open LCg in
inductive CE (h₀ : Heap) (L : Addr) (m : Str → Option Value) (s₂ : Shared) (C : Addr) (m₄ : Str → Option Value) (ws : List (Addr × String)) (St : Heap → Prop) (ys : List Value) (news : Led) (J : Led → Prop) (s₅ : Shared) : Prop
  | mk (h₅ : Heap) (tk₅ : Nat) (gr' : Led) (e : s₅ = { s₂ with heap := h₅, toks := tk₅ }) (hst : St h₅) (F : Fr h₀ L h₅ m) (hn : h₅.Ns C m₄) (N : News h₀ L h₅ ((s₂.heap.objs.size, lst ys) :: (gr' ++ news)))
    (off : ∀ p ∈ gr' ++ news, p.1 ∉ ws.map (·.1) ∧ p.1 ≠ C ∧ p.1 ≠ s₂.heap.objs.size) (hJ : J gr')
open LCg in
theorem comp_core {elt iter tgt : Expr} {ifs : List Expr} {scope : Scope} {cl : List (Str × Addr)} {pos : Pos} {it : Value} {s₂ : Shared} {FinP : Shared → Led → (List Value → Led → Prop) → Prop} {RR : Value → Addr → Result → Shared → Prop}
    (hcell : ∀ y ∈ scope.names, y.2 ≠ .cell) (hkind : scope.kind = .function) (h₂ : CompAt prog w A h₀ L m env tgt elt ifs scope cl FinP it s₂)
    (hRR : ∀ D C h tk m' ys gr news (n : Nat) (J : Nat → List Value → Led → Prop), FinP s₂ news (J n) → Fr h₀ L h m → News h₀ L h ((D, lst ys) :: (gr ++ news)) → (∀ p ∈ gr ++ news, p.1 ≠ D) → h.Ns C m' → h₀.get? C = none → h₀.get? D = none → C ≠ L → D ≠ L → C ≠ D → (∀ p ∈ gr ++ news, p.1 ≠ C) → J n ys gr → RR (.ref D) C (.ok .next) { s₂ with heap := h, toks := tk }) :
    wpAny (model prog w) A (newList []) (fun acc s₃ => wpAny (model prog w) A (newFunctionEnv scope env.globals cl [] env.qual none .none (some env)) (fun cenv s₄ =>
      codeAny (model prog w) A (.compStart (.ListComp elt [⟨tgt, iter, ifs, 0⟩] scope pos) 0 it acc { cenv with scope := relabel scope env }) (RR acc cenv.locals) s₄) E s₃) E s₂ := by
  obtain ⟨I, fp, wr, n, P, Md, St, ws, keep, news, B, J, rfl, W, hself, hobj, hws, hwr, hfp, hL, hnws, hk, hsz, hst, F, N, h0, hasg, step, fin⟩ := h₂
  refine wpAny_newObj_type (wpAny_newFunctionEnv hcell (by intro y hy; simp at hy) (fun h₁ hns₁ hsb₁ => ?_) hkind)
  dsimp only at hns₁ hsb₁ ⊢
  generalize hH2 : s₂.heap.push { cls := .type "list", dict := none, data := .seq ([] : List Value).toArray } = H2 at hns₁ hsb₁ ⊢
  have hC : H2.objs.size = s₂.heap.objs.size + 1 := by rw [← hH2, Heap.size_push]
  have hDC : s₂.heap.objs.size ≠ H2.objs.size := by rw [hC]; exact Nat.ne_of_lt (Nat.lt_succ_self _)
  have below : ∀ b, b < s₂.heap.objs.size → b ≠ H2.objs.size ∧ b ≠ s₂.heap.objs.size := fun b hb => ⟨by rw [hC]; exact Nat.ne_of_lt (Nat.lt_succ_of_lt hb), Nat.ne_of_lt hb⟩
  have hwlt : ∀ b ∈ ws.map (·.1), b < s₂.heap.objs.size := fun b hb => by
    obtain ⟨its, hits, hval⟩ := hobj 0 _ hst
    rw [← hits.map] at hb
    obtain ⟨p, hp, rfl⟩ := List.mem_map.mp hb
    exact Heap.lt_size (hval p hp)
  have hfplt : ∀ b ∈ fp, b < s₂.heap.objs.size := fun b hb => by
    rcases hfp b hb with h | ⟨o, h⟩ | ⟨o, h⟩
    · exact hwlt b h
    · exact Heap.lt_size (N _ (hk _ h)).1
    · exact Heap.lt_size (F.keep _ _ h)
  have hDf : s₂.heap.objs.size ∉ fp := fun hm => Nat.lt_irrefl _ (hfplt _ hm)
  have hCf : H2.objs.size ∉ fp := fun hm => by have := hfplt _ hm; rw [hC] at this; exact Nat.lt_irrefl _ (Nat.lt_of_succ_lt this)
  have hwf : ∀ b ∈ wr, b ∈ fp := W.sub
  have old : ∀ b o, s₂.heap.get? b = some o → h₁.get? b = some o := fun b o e => hsb₁.extBut b o (below b (Heap.lt_size e)).1 (Heap.get?_push_of_some _ (hH2 ▸ Heap.get?_push_of_some _ e))
  have hacc : h₁.get? s₂.heap.objs.size = some (lst []) := hsb₁.extBut _ _ hDC (Heap.get?_push_of_some _ (hH2 ▸ Heap.get?_push_size _ rfl))
  have hst₁ : St 0 h₁ := W.frame _ _ _ hst fun b _ o e => old b o e
  have fresh : ∀ a, s₂.heap.objs.size ≤ a → s₂.heap.get? a = none := fun a ha => by
    cases e : s₂.heap.get? a with
    | none => rfl
    | some o' => exact absurd (Heap.lt_size e) (Nat.not_lt.mpr ha)
  have fresh₀ : ∀ a, s₂.heap.objs.size ≤ a → h₀.get? a = none := fun a ha => by
    cases e : h₀.get? a with
    | none => rfl
    | some o' => have := F.keep a o' e; rw [fresh a ha] at this; cases this
  have hD₀ : h₀.get? s₂.heap.objs.size = none := fresh₀ _ (Nat.le_refl _)
  have hC₀ : h₀.get? H2.objs.size = none := fresh₀ _ (by rw [hC]; exact Nat.le_succ _)
  have hLlt : L < s₂.heap.objs.size := F.ns.lt
  have hDL : s₂.heap.objs.size ≠ L := Ne.symm (below L hLlt).2
  have hCL : H2.objs.size ≠ L := Ne.symm (below L hLlt).1
  have hLw : L ∉ wr := fun h => hL (hwf _ h)
  have loop : ∀ s₃ : Shared, s₃ = { s₂ with heap := h₁, toks := s₂.toks + ([] : List (Str × Value)).length } →
      codeAny (model prog w) A (.compLoop (.ListComp elt [⟨tgt, iter, ifs, 0⟩] scope pos) 0 (.ref I) (.ref s₂.heap.objs.size) (compEnvC scope cl H2.objs.size env))
        (RR (.ref s₂.heap.objs.size) H2.objs.size) s₃ := by
    rintro s₃ rfl
    refine gen_loop
      (CI h₀ L m s₂ H2.objs.size ws n St news J) ?_ (n + 1)
      ⟨h₁, _, 0, [], _, [], rfl, Nat.zero_le _, rfl, Nat.le_refl _, hst₁, F.keeps old, hns₁, fun p hp => ?_, fun p hp => ⟨hnws p hp, below _ (Heap.lt_size (N p hp).1)⟩, h0⟩
    · rintro k s' hz0
      refine hide ?_
      intro Z hZ
      obtain ⟨h', tk, i, ys, m', gr, rfl, hi, rfl, hyl, hst', F', hn', N', off', hJ⟩ := hz0
      refine hZ ?_
      clear hZ Z
      have offw : ∀ p ∈ (s₂.heap.objs.size, lst ys) :: (gr ++ news), p.1 ∉ wr := fun p hp hm => by
        rcases List.mem_cons.mp hp with rfl | hp
        · exact hDf (hwf _ hm)
        · exact (off' p hp).1 (hwr _ hm)
      have oldw : ∀ b o, h₀.get? b = some o → b ∉ wr := fun b o e hb => by rw [(hws b (hwr b hb)).2] at e; cases e
      by_cases hlt : i < n
      · refine W.item i _ _ _ hlt hst' fun v h₂ tk₂ hMd hk₂ => ?_
        refine W.go i v _ _ _ hMd fun h₃ hP hst₃ hk₃ => ?_
        have up₃ : ∀ b o, b ∉ wr → h'.get? b = some o → h₃.get? b = some o := fun b o hb e => hk₃ b o hb (hk₂ b o hb e)
        refine hasg H2.objs.size i v _ _ _ _ hP (hn'.at' fun o e => up₃ _ o (fun q => hCf (hwf _ q)) e) (fun p hp => up₃ _ _ (offw p (.tail _ (List.mem_append_right _ hp))) (N' p (.tail _ (List.mem_append_right _ hp))).1) (fun b o e => up₃ b o (oldw b o e) (F'.keep b o e)) fun h₄ tk₄ m₄ hn₄ hB hs₄ => ?_
        have up : ∀ b o, b ∉ wr → b ≠ H2.objs.size → h'.get? b = some o → h₄.get? b = some o := fun b o h1 h2 e => hs₄ b o h2 (up₃ b o h1 e)
        have hst₄ : St (i + 1) h₄ := W.frame _ _ _ hst₃ fun b hb o e => hs₄ b o (fun q => hCf (q ▸ hb)) e
        refine hide ?_
        intro Z hZ
        obtain ⟨its, hits, hval⟩ := hobj _ _ hst₄
        have hmap := hits.map
        obtain ⟨oC, heC, hoC⟩ := ns_obj hn₄
        refine hZ ?_
        clear hZ Z
        have F₄ : Fr h₀ L h₄ m := ⟨F'.ns.at' fun o e => up _ o hLw (Ne.symm hCL) e, fun c o e => up c o (oldw c o e) (fun q => by rw [q, hC₀] at e; cases e) (F'.keep c o e), F'.above⟩
        have hiw : ∀ q ∈ its, q.1 ∈ ws.map (·.1) := fun q hq => by rw [← hmap]; exact List.mem_map_of_mem hq
        have N₄ : News h₀ L h₄ (its ++ (H2.objs.size, oC) :: (s₂.heap.objs.size, lst ys) :: (gr ++ news)) := fun q hq => by
          rcases List.mem_append.mp hq with hq | hq
          · have h1 := hiw q hq
            exact ⟨hval q hq, fun e => hL (e ▸ (hws _ h1).1), (hws _ h1).2⟩
          rcases List.mem_cons.mp hq with rfl | hq
          · exact ⟨heC, hCL, hC₀⟩
          · have z := N' q hq
            refine ⟨up _ _ (offw q hq) ?_ z.1, z.2⟩
            rcases List.mem_cons.mp hq with rfl | hq
            · exact hDC
            · exact (off' q hq).2.1
        have hiCD : ∀ q ∈ its, @Ne Nat q.1 H2.objs.size ∧ @Ne Nat q.1 s₂.heap.objs.size := fun q hq => below _ (hwlt _ (hiw q hq))
        have hio : ∀ p ∈ gr ++ news, ∀ q ∈ its, p.1 ≠ q.1 := fun p hp q hq e => (off' p hp).1 (e ▸ hiw q hq)
        have main := (step H2.objs.size oC s₂.heap.objs.size i ys gr m₄ h₄ tk₄ (notedBy (model prog w) A (compEnvC scope cl H2.objs.size env) fun e s' => RR (.ref s₂.heap.objs.size) H2.objs.size (.error e) s')
          hlt hyl hB hoC hJ F₄ (Ne.symm hDC) (fun p hp => (off' p hp).2)).at hits hiCD hio N₄
        -- the end of a turn
        have ending : ∀ ys' s₅, CEnd h₀ L m { s₂ with heap := h₄, toks := tk₄ } its H2.objs.size oC s₂.heap.objs.size ys news (J (i + 1) ys') s₅ →
            CE h₀ L m s₂ H2.objs.size m₄ ws (St (i + 1)) ys news (J (i + 1) ys') s₅ := by
          rintro ys' s₅ ⟨h₅, tk₅, gr', rfl, F₅, N₅, off₅, hJ₅⟩
          have zC := (N₅ (H2.objs.size, oC) (List.mem_append_right _ (.head _))).1
          refine ⟨h₅, tk₅, gr', rfl, ?_, F₅, hoC.ns zC, fun p hp => N₅ p (List.mem_append_right _ (.tail _ hp)), fun p hp => ⟨fun hm => ?_, (off₅ p hp).2⟩, hJ₅⟩
          · refine W.frame _ _ _ hst₄ fun b hb o e => ?_
            rcases hfp b hb with h | ⟨o', h⟩ | ⟨o', h⟩
            · rw [← hmap] at h
              obtain ⟨q, hq, rfl⟩ := List.mem_map.mp h
              have h1 := hval q hq
              rw [e] at h1
              have h2 : o = q.2 := Option.some.inj h1
              rw [h2]
              exact (N₅ q (List.mem_append_left _ hq)).1
            · have h1 := hk _ h
              have h2 := (N₄ _ (List.mem_append_right _ (.tail _ (.tail _ (List.mem_append_right _ h1))))).1
              have h3 : h₄.get? b = some o' := h2
              rw [e] at h3
              have h4 : o = o' := Option.some.inj h3
              rw [h4]
              exact (N₅ _ (List.mem_append_right _ (.tail _ (.tail _ (List.mem_append_right _ h1))))).1
            · have h2 := F₄.keep _ _ h
              rw [e] at h2
              have h4 : o = o' := Option.some.inj h2
              rw [h4]
              exact F₅.keep _ _ h
          · rw [← hmap] at hm
            obtain ⟨q, hq, e⟩ := List.mem_map.mp hm
            exact (off₅ p hp).1 q hq e.symm
        refine wpAny_mono main (fun ok s₅ h₅ => ?_) fun _ _ e => e
        cases ok with
        | false =>
          simp only [Bool.false_eq_true, if_false] at h₅ ⊢
          refine hide ?_
          intro Z hZ
          obtain ⟨h₆, tk₆, gr', rfl, hst₆, F₆, hn₆, N₆, off₆, hJ₆⟩ := ending ys s₅ h₅
          refine hZ ?_
          clear hZ Z
          exact ⟨n + 1 - (i + 1), by lia, h₆, tk₆, i + 1, ys, m₄, gr', rfl, hlt, rfl, Nat.le_succ_of_le hyl, hst₆, F₆, hn₆, N₆, off₆, hJ₆⟩
        | true =>
          simp only [if_true] at h₅ ⊢
          refine wpAny_mono h₅ (fun y s₆ h₆ => ?_) fun _ _ e => e
          refine hide ?_
          intro Z hZ
          obtain ⟨h₆, tk₆, gr', rfl, hst₆, F₆, hn₆, N₆, off₆, hJ₆⟩ := ending _ s₆ h₆
          refine hZ ?_
          clear hZ Z
          have zD := (N₆ (s₂.heap.objs.size, lst ys) (.head _)).1
          refine append_at (hsz := by show ys.toArray.size ≤ sizeLine; rw [List.size_toArray]; exact Nat.le_trans hyl (Nat.le_trans hi hsz)) zD fun h₇ hs₇ hD₇ => ?_
          refine ⟨n + 1 - (i + 1), by lia, h₇, tk₆, i + 1, ys ++ [y], m₄, gr', rfl, hlt, rfl, by rw [List.length_append, List.length_singleton]; lia,
            W.frame _ _ _ hst₆ fun b hb o e => hs₇.extBut b o (fun q => hDf (q ▸ hb)) e, F₆.change hs₇ hDL hD₀, hn₆.sameBut hs₇ (Ne.symm hDC), fun p hp => ?_, off₆, hJ₆⟩
          rcases List.mem_cons.mp hp with rfl | hp
          · exact ⟨hD₇.trans (congrArg some (lst_snoc ys y)), hDL, hD₀⟩
          · exact ⟨hs₇.extBut _ _ (off₆ p hp).2.2 (N₆ p (.tail _ hp)).1, (N₆ p (.tail _ hp)).2⟩
      · obtain rfl : i = n := Nat.le_antisymm hi (Nat.not_lt.mp hlt)
        refine W.done _ _ _ hst' fun h₂ tk₂ hk₂ => ?_
        have up : ∀ b o, b ∉ wr → h'.get? b = some o → h₂.get? b = some o := fun b o h1 e => hk₂ b o h1 e
        refine hRR s₂.heap.objs.size H2.objs.size h₂ tk₂ m' ys gr news _ J fin ⟨F'.ns.at' fun o e => up _ o hLw e, fun c o e => up c o (oldw c o e) (F'.keep c o e), F'.above⟩ (fun p hp => ⟨up _ _ (offw p hp) (N' p hp).1, (N' p hp).2⟩) (fun p hp => (off' p hp).2.2)
          (hn'.at' fun o e => hk₂ _ o (fun q => hCf (hwf _ q)) e) hC₀ hD₀ hCL hDL (Ne.symm hDC) (fun p hp => (off' p hp).2.1) hJ
    · rcases List.mem_cons.mp hp with rfl | hp
      · exact ⟨hacc, hDL, hD₀⟩
      · exact ⟨old _ _ (N p hp).1, (N p hp).2⟩
  exact codeAny_compStart_list (loop _ rfl) (hself _ _ _ hst₁ (loop _ rfl))
open LCg in
theorem ListComp_G {elt iter tgt : Expr} {ifs : List Expr} {scope : Scope} {cl : List (Str × Addr)} {pos : Pos} {Q : Value → Shared → Prop} (_F : Fr h₀ L s.heap m)
    (hclos : closureFor scope env = pure cl) (hcell : ∀ y ∈ scope.names, y.2 ≠ .cell) (hkind : scope.kind = .function)
    (hnames : ∀ y ∈ scope.names, y.2 = .local → scope.names.lookup y.1 = some .local)
    (h : wpAny (model prog w) A (eval iter env) (fun xv s₁ => wpAny (model prog w) A (pyIter xv) (fun it s₂ => CompAt prog w A h₀ L m env tgt elt ifs scope cl (fun s₂ news J => CFin h₀ L m s₂ news J Q) it s₂) E s₁) E s)
    (hs : ∀ x, foldedSetIterable iter env x = pure x := by intro _; rfl) :
    wpAny (model prog w) A (eval (.ListComp elt [⟨tgt, iter, ifs, 0⟩] scope pos) env) Q E s := by
  rw [eval_ListComp]
  refine wpAny_comprehension_free (use := none) rfl hs hclos hkind hnames (wpAny_mono h (fun xv s₁ h₁ => wpAny_mono h₁ (fun it s₂ h₂ => comp_core hcell hkind h₂ ?_) fun _ _ e => e) fun _ _ e => e)
  intro D C h tk m' ys gr news n J fin F' N' o1 hn hC₀ hD₀ hCL hDL hCD offC hJ
  refine ⟨m', hn, fun h'' hs'' => fin D h'' tk ys gr (F'.change hs'' hCL hC₀) (fun p hp => ?_) o1 hJ⟩
  refine ⟨hs''.extBut _ _ ?_ (N' p hp).1, (N' p hp).2⟩
  rcases List.mem_cons.mp hp with rfl | hp
  · exact Ne.symm hCD
  · exact offC p hp
open LCg in
end

open LCg in
abbrev CStep (prog : Program) (w : World) (A : Around) (h₀ : Heap) (L : Addr) (m : Str → Option Value) (env : Env) (elt : Expr) (ifs : List Expr) (scope : Scope) (cl : List (Str × Addr)) (s₂ : Shared) (ws : List (Addr × String)) (news : Led) (J : Nat → List Value → Led → Prop)
    (C : Addr) (oC : Obj) (D : Addr) (i : Nat) (ys : List Value) (gr : Led) (h : Heap) (tk : Nat) (E' : Value → Shared → Prop) : Prop :=
  AllObj ws (fun its => (∀ q ∈ its, @Ne Nat q.1 C ∧ @Ne Nat q.1 D) → (∀ p ∈ gr ++ news, ∀ q ∈ its, p.1 ≠ q.1) → News h₀ L h (its ++ (C, oC) :: (D, lst ys) :: (gr ++ news)) →
        wpAny (model prog w) A (ctests ifs (compEnvC scope cl C env)) (fun ok s₃ =>
          if ok = true then wpAny (model prog w) A (eval elt (compEnvC scope cl C env)) (fun y s₄ => CEnd h₀ L m { s₂ with heap := h, toks := tk } its C oC D ys news (J (i + 1) (ys ++ [y])) s₄) E' s₃
          else CEnd h₀ L m { s₂ with heap := h, toks := tk } its C oC D ys news (J (i + 1) ys) s₃) E' { s₂ with heap := h, toks := tk })
section
variable {prog : Program} {w : World} {A : Around} {E : Value → Shared → Prop} {s : Shared} {env : Env} {h₀ : Heap} {m : Str → Option Value} {FinP : Shared → Led → (List Value → Led → Prop) → Prop}
theorem zipG_comp {elt : Expr} {ifs : List Expr} {scope : Scope} {cl : List (Str × Addr)} {a b : Str} {pa pb tp : Pos} {kk : Nat} {args : List Value} {x y : Src} {keep news : Led} (hh : A.handled = none) (hargs : args = [x, y].map Src.val)
    (hct : checkTypeCall "zip" ⟨args, []⟩ = pure ()) (hcn : checkBuiltinCall "zip.__new__" ⟨.type "zip" :: args, []⟩ = pure ()) (hok : ∀ obj, argsOk "object.__init__" ⟨obj :: args, []⟩)
    (F : Fr h₀ env.locals s.heap m) (N : News h₀ env.locals s.heap news) (hk : ∀ p ∈ keep, p ∈ news)
    (ok : ∀ z ∈ [x, y], z.ok s.heap) (hn : ∀ z ∈ [x, y], x.n ≤ z.n) (hfp : ∀ z ∈ [x, y], ∀ b ∈ z.fp, (∃ o, (b, o) ∈ keep) ∨ ∃ o, h₀.get? b = some o) (hsz : x.n ≤ sizeLine)
    (hkind : scope.kind = .function) (hxa : scope.names.lookup a = some .local) (hxb : scope.names.lookup b = some .local) (hab : ¬ a = b)
    (J : Nat → List Value → Led → Prop) (h0 : J 0 [] [])
    (step : ∀ I, (∀ p ∈ news, p.1 < I) → ∀ C oC D i ys gr m₂ vx vy h tk (E' : Value → Shared → Prop), i < x.n → ys.length ≤ i → x.P i vx → y.P i vy → m₂ a = some vx → m₂ b = some vy → LCg.NsObj oC m₂ → J i ys gr → Fr h₀ env.locals h m → @Ne Nat C D → (∀ p ∈ gr ++ news, p.1 ≠ C ∧ p.1 ≠ D) →
      CStep prog w A h₀ env.locals m env elt ifs scope cl s (zws I [x, y]) news J C oC D i ys gr h tk E')
    (fin : ∀ h', FinP { s with heap := h' } news (J x.n)) :
    wpAny (model prog w) A (call (.type "zip") args) (fun xv s₁ => wpAny (model prog w) A (pyIter xv) (fun it s₂ => CompAt prog w A h₀ env.locals m env (.Tuple [.Name a pa, .Name b pb] kk tp) elt ifs scope cl FinP it s₂) E s₁) E s := by
  have hsmall : [x, y].length ≤ 100 := by simp
  subst hargs
  refine callType_new PySem.F.called_zip (by decide) hct hcn hok PySem.F.entry_zip_new (S := fun _ R s₁ => s₁ = s ∧ ∀ h', (∀ b o, s.heap.get? b = some o → h'.get? b = some o) → ZSt (s.heap.objs.size + [x, y].length + 2) (s.heap.objs.size + [x, y].length) (s.heap.objs.size + [x, y].length + 1) (numb s.heap.objs.size [x, y]) .none 0 h' → R (.ok (.ret (.ref (s.heap.objs.size + [x, y].length + 2)))) { s with heap := h' }) ?_ ?_
  · refine .of_wp fun prog w A R s₁ h => ?_
    obtain ⟨rfl, h⟩ := h
    exact zip_new_run ok hsmall h
  refine ⟨rfl, fun h' keepH zst => ?_⟩
  have lt2 : ∀ {b : Addr} {o : Obj}, s.heap.get? b = some o → b < s.heap.objs.size := fun e => Heap.lt_size e
  have hn1 : [x, y].length = 1 + 1 := rfl
  refine ⟨⟨_, zst.z, rfl⟩, ?_⟩
  refine wpAny_pyIter_zip zst.z ?_
  have hfpL : ∀ p ∈ numb s.heap.objs.size [x, y], ∀ b ∈ p.2.fp, b < s.heap.objs.size ∧ b ≠ env.locals := by
    intro p hp b hb
    obtain ⟨_, _, h3⟩ := numb_mem hp
    rcases hfp p.2 h3 b hb with ⟨o, ho⟩ | ⟨o, ho⟩
    · have := N _ (hk _ ho)
      exact ⟨lt2 this.1, this.2.1⟩
    · exact ⟨lt2 (F.keep _ _ ho), fun e => Nat.ne_of_lt (Nat.lt_of_lt_of_le (Heap.lt_size ho) F.above) e⟩
  have D : ZA (s.heap.objs.size + [x, y].length + 2) (s.heap.objs.size + [x, y].length) (s.heap.objs.size + [x, y].length + 1) (numb s.heap.objs.size [x, y]) := by
    refine ⟨?_, ?_, ?_, numb_pair _ _, fun p hp => ?_⟩
    · exact Nat.ne_of_lt (by lia)
    · exact Nat.ne_of_lt (by lia)
    · exact Nat.ne_of_lt (by lia)
    · obtain ⟨h1, h2, h3⟩ := numb_mem hp
      refine ⟨Nat.ne_of_lt (Nat.lt_of_lt_of_le h2 (by lia)), Nat.ne_of_lt (Nat.lt_of_lt_of_le h2 (by lia)), Nat.ne_of_lt (Nat.lt_of_lt_of_le h2 (Nat.le_refl _)), fun b hb => ?_⟩
      have hb' := (hfpL p hp b hb).1
      refine ⟨Nat.ne_of_lt (Nat.lt_of_lt_of_le hb' (by lia)), Nat.ne_of_lt (Nat.lt_of_lt_of_le hb' (by lia)), fun q hq => Nat.ne_of_lt (Nat.lt_of_lt_of_le hb' (numb_mem hq).1)⟩
  have hcons : numb s.heap.objs.size [x, y] = (s.heap.objs.size, x) :: numb (s.heap.objs.size + 1) [y] := rfl
  have hmap : ∀ (a : Nat) (l : List Src), (numb a l).map (·.2) = l := by
    intro a l
    induction l generalizing a with
    | nil => rfl
    | cons y l ih => show y :: (numb (a + 1) l).map (·.2) = y :: l; rw [ih]
  have W := WalksU.zipG (prog := prog) (w := w) (A := A) hh (its := numb (s.heap.objs.size + 1) [y]) (q := (s.heap.objs.size, x)) D (by show (numb s.heap.objs.size [x, y]).length ≤ 100; rw [numb_length]; exact hsmall) (fun p hp => hn p.2 (numb_mem (l := [x, y]) hp).2.2)
  rw [← hcons] at W
  have hLs : env.locals < s.heap.objs.size := F.ns.lt
  have F' := F.keeps keepH
  have N' := News.grown N keepH
  have wsNew : ∀ b ∈ (zws s.heap.objs.size [x, y]).map (·.1), s.heap.objs.size ≤ b := by
    intro b hb
    simp only [zws, List.map_cons, List.mem_cons, List.map_map] at hb
    rcases hb with rfl | rfl | rfl | hb
    · lia
    · lia
    · lia
    · obtain ⟨p, hp, rfl⟩ := List.mem_map.mp hb
      exact (numb_mem hp).1
  refine ⟨_, _, _, x.n, _, _, _, zws s.heap.objs.size [x, y], keep, news, (fun i m₂ => ∃ vx vy, x.P i vx ∧ y.P i vy ∧ m₂ a = some vx ∧ m₂ b = some vy), J, rfl, KTurns.ofWalksU (elts := [.Name a pa, .Name b pb]) (k := kk) (pos := tp) W.bound, (fun s Q E st q => W.self 0 s Q E st q), ?_, ?_, ?_, ?_, ?_, ?_, hk, hsz, zst, F', N', h0, ?_, ?_, ?_⟩
  · intro i h st
    obtain ⟨old, ⟨n, ho⟩, _⟩ := st.tov
    obtain ⟨l, a, b⟩ := objs_of fun p hp => (st.st p hp).here
    have e1 : ∃ o : Obj, h.get? (s.heap.objs.size + [x, y].length + 2) = some o ∧ o.cls = .type "zip" := ⟨_, st.z, rfl⟩
    have e2 : ∃ o : Obj, h.get? (s.heap.objs.size + [x, y].length) = some o ∧ o.cls = .type "tuple" := ⟨_, st.ti, rfl⟩
    have e3 : ∃ o : Obj, h.get? (s.heap.objs.size + [x, y].length + 1) = some o ∧ o.cls = .type "tuple" := ⟨_, ho, rfl⟩
    obtain ⟨q1, g1, k1⟩ := e1
    obtain ⟨q2, g2, k2⟩ := e2
    obtain ⟨q3, g3, k3⟩ := e3
    refine ⟨(_, q1) :: (_, q2) :: (_, q3) :: l, ⟨⟨rfl, k1⟩, ⟨rfl, k2⟩, ⟨rfl, k3⟩, a⟩, fun p hp => ?_⟩
    rcases List.mem_cons.mp hp with rfl | hp
    · exact g1
    rcases List.mem_cons.mp hp with rfl | hp
    · exact g2
    rcases List.mem_cons.mp hp with rfl | hp
    · exact g3
    exact b p hp
  · intro b hb
    refine ⟨?_, ktu_new F (wsNew b hb)⟩
    simp only [zws, List.map_cons, List.mem_cons, List.map_map] at hb
    rcases hb with rfl | rfl | rfl | hb
    · simp [zfp]
    · simp [zfp]
    · simp [zfp]
    · exact List.mem_append_right _ (List.mem_append_left _ hb)
  · intro b hb
    rcases List.mem_append.mp hb with hb | hb
    · have hb' : b = s.heap.objs.size + [x, y].length + 2 ∨ b = s.heap.objs.size + [x, y].length + 1 := by simpa using hb
      rcases hb' with rfl | rfl <;> simp [zws]
    · simp only [zws, List.map_cons, List.mem_cons, List.map_map]
      exact .inr (.inr (.inr hb))
  · intro b hb
    rcases List.mem_append.mp hb with hb | hb
    · have hb' : b = s.heap.objs.size + [x, y].length + 2 ∨ b = s.heap.objs.size + [x, y].length ∨ b = s.heap.objs.size + [x, y].length + 1 := by simpa using hb
      rcases hb' with rfl | rfl | rfl <;> (left; simp [zws])
    rcases List.mem_append.mp hb with hb | hb
    · left
      simp only [zws, List.map_cons, List.mem_cons, List.map_map]
      exact .inr (.inr (.inr hb))
    · obtain ⟨p, hp, hb⟩ := List.mem_flatMap.mp hb
      exact .inr (hfp p.2 (numb_mem hp).2.2 b hb)
  · intro hI
    rcases List.mem_append.mp hI with hb | hb
    · have hb' : env.locals = s.heap.objs.size + [x, y].length + 2 ∨ env.locals = s.heap.objs.size + [x, y].length ∨ env.locals = s.heap.objs.size + [x, y].length + 1 := by simpa using hb
      rcases hb' with e | e | e
      · exact Nat.ne_of_lt (Nat.lt_of_lt_of_le hLs (by lia)) e
      · exact Nat.ne_of_lt (Nat.lt_of_lt_of_le hLs (by lia)) e
      · exact Nat.ne_of_lt (Nat.lt_of_lt_of_le hLs (by lia)) e
    rcases List.mem_append.mp hb with hb | hb
    · obtain ⟨p, hp, e⟩ := List.mem_map.mp hb
      exact Nat.ne_of_lt (Nat.lt_of_lt_of_le hLs (numb_mem hp).1) e.symm
    · obtain ⟨p, hp, hb⟩ := List.mem_flatMap.mp hb
      exact (hfpL p hp _ hb).2 rfl
  · intro p hp hI
    exact Nat.lt_irrefl _ (Nat.lt_of_lt_of_le (Heap.lt_size (N p hp).1) (wsNew _ hI))
  · rintro C i v s' m' Q' E' ⟨T, vals, rfl, ⟨_, hd⟩, hT⟩ hns _ _ hQ
    rw [hmap] at hd
    generalize hvl : vals.toList = vl at hd
    cases hd with
    | @cons _ vx _ _ hx hd =>
    cases hd with
    | @cons _ vy _ _ hy hd =>
    cases hd
    have hvals : vals = #[vx, vy] := by rw [← Array.toArray_toList (xs := vals), hvl]
    subst hvals
    refine kcp_assign (env := compEnvC scope cl C env) hh hT (lookup_relabel_local hxa) (lookup_relabel_local hxb) (by simp [compEnvC, relabel, hkind]) hns fun h₄ tk₄ hn₄ hs₄ => ?_
    exact hQ h₄ tk₄ _ hn₄ ⟨_, _, hx, hy, by simp [hab], by simp⟩ hs₄
  · rintro C oC D i ys gr m₂ h tk E' hi hyl ⟨vx, vy, hx, hy, e1, e2⟩ hC hJ F₁ hCD off
    exact step _ (fun p hp => Heap.lt_size (N p hp).1) C oC D i ys gr m₂ vx vy h tk E' hi hyl hx hy e1 e2 hC hJ F₁ hCD off
  · exact fin _
end

section
variable {prog : Program} {w : World} {A : Around} {E : Value → Shared → Prop} {s : Shared} {env : Env} {h₀ : Heap} {L : Addr} {m : Str → Option Value} {FinP : Shared → Led → (List Value → Led → Prop) → Prop}
/- a comprehension over a list -/
theorem listG_comp {tgt elt : Expr} {ifs : List Expr} {scope : Scope} {cl : List (Str × Addr)} {ax : Addr} {vs : List Value} {keep news : Led} (hh : A.handled = none)
    (F : Fr h₀ L s.heap m) (N : News h₀ L s.heap news) (hk : ∀ p ∈ keep, p ∈ news) (hl : s.heap.IsList ax vs.toArray) (hfp : (∃ o, (ax, o) ∈ keep) ∨ ∃ o, h₀.get? ax = some o) (hsz : vs.length ≤ sizeLine)
    (B : Nat → (Str → Option Value) → Prop)
    (hasg : ∀ C i v (s : Shared) m' (Q : Unit → Shared → Prop) (E : Value → Shared → Prop), vs[i]? = some v → s.heap.Ns C m' → (∀ p ∈ news, s.heap.get? p.1 = some p.2) → (∀ b o, h₀.get? b = some o → s.heap.get? b = some o) →
      (∀ h' tk m₂, h'.Ns C m₂ → B i m₂ → (∀ c o, c ≠ C → s.heap.get? c = some o → h'.get? c = some o) → Q () { s with heap := h', toks := tk }) → wpAny (model prog w) A (assign tgt (compEnvC scope cl C env) v) Q E s)
    (J : Nat → List Value → Led → Prop) (h0 : J 0 [] [])
    (step : ∀ I, (∀ p ∈ news, p.1 < I) → ∀ C oC D i ys gr m₂ h tk (E' : Value → Shared → Prop), i < vs.length → ys.length ≤ i → B i m₂ → LCg.NsObj oC m₂ → J i ys gr → Fr h₀ L h m → @Ne Nat C D → (∀ p ∈ gr ++ news, p.1 ≠ C ∧ p.1 ≠ D) →
      CStep prog w A h₀ L m env elt ifs scope cl s [(I, "list_iterator")] news J C oC D i ys gr h tk E')
    (fin : ∀ h', FinP { s with heap := h' } news (J vs.length)) :
    wpAny (model prog w) A (pyIter (.ref ax)) (fun it s₂ => CompAt prog w A h₀ L m env tgt elt ifs scope cl FinP it s₂) E s := by
  have hlt : ax < s.heap.objs.size := by obtain ⟨o, e, _⟩ := hl; exact Heap.lt_size e
  have hne : ax ≠ s.heap.objs.size := Nat.ne_of_lt hlt
  refine wpAny_pyIter_list hl ?_
  have W := Walks.list (prog := prog) (w := w) (A := A) hh s.heap.objs.size ax hne vs.toArray
  refine ⟨s.heap.objs.size, _, _, vs.toArray.size, _, _, _, [(s.heap.objs.size, "list_iterator")], keep, news, B, J, rfl, KTurns.ofWalks (target := tgt) W fun i v s Q E st q => letGo_listiter st.1 q, (fun s Q E st q => W.self 0 s Q E st q), ?_, ?_, ?_, ?_, ?_, ?_, hk, (by rw [List.size_toArray]; exact hsz), ?_, (F.push _), (fun p hp => ⟨Heap.get?_push_of_some _ (N p hp).1, (N p hp).2⟩), h0, ?_, ?_, ?_⟩
  · intro i h st
    obtain ⟨it, hit, hic, _⟩ := st.1
    exact ⟨[(s.heap.objs.size, it)], ⟨⟨rfl, hic⟩, trivial⟩, fun p hp => by rw [List.mem_singleton.mp hp]; exact hit⟩
  · intro b hb
    have hb' : b = s.heap.objs.size := by simpa using hb
    rw [hb']
    exact ⟨List.mem_cons_self .., next_is_new F⟩
  · intro b hb
    simpa using hb
  · intro b hb
    have hb' : b = s.heap.objs.size ∨ b = ax := by simpa using hb
    rcases hb' with e | e
    · exact .inl (by simp [e])
    · exact .inr (e ▸ hfp)
  · intro hI
    rcases List.mem_cons.mp hI with e | hI
    · exact absurd F.ns.lt (e ▸ Nat.lt_irrefl _)
    · have e : L = ax := List.mem_singleton.mp hI
      rcases hfp with ⟨o, ho⟩ | ⟨o, ho⟩
      · exact (N _ (hk _ ho)).2.1 e.symm
      · exact Nat.ne_of_lt (Nat.lt_of_lt_of_le (Heap.lt_size ho) F.above) e.symm
  · intro p hp hI
    have e : p.1 = s.heap.objs.size := by simpa using hI
    exact Nat.ne_of_lt (Heap.lt_size (N p hp).1) e
  · exact ⟨⟨_, Heap.get?_push_size _ rfl, rfl, rfl⟩, hl.at fun o e => Heap.get?_push_of_some _ e⟩
  · intro C i v s' m' Q' E' hP hns h1 h2 hQ
    exact hasg C i v s' m' Q' E' (by simpa using hP) hns h1 h2 hQ
  · rintro C oC D i ys gr m₂ h tk E' hi hyl hB hC hJ F₁ hCD off
    exact step _ (fun p hp => Heap.lt_size (N p hp).1) C oC D i ys gr m₂ h tk E' (by simpa using hi) hyl hB hC hJ F₁ hCD off
  · rw [List.size_toArray]
    exact fin _
theorem asg_name {scope : Scope} {cl : List (Str × Addr)} {x : Str} {px : Pos} {C : Addr} {v : Value} {s : Shared} {m' : Str → Option Value} {Q : Unit → Shared → Prop} {E : Value → Shared → Prop} (hkind : scope.kind = .function) (hx : scope.names.lookup x = some .local) (hns : s.heap.Ns C m')
    (hQ : ∀ h' tk m₂, h'.Ns C m₂ → m₂ x = some v → (∀ c o, c ≠ C → s.heap.get? c = some o → h'.get? c = some o) → Q () { s with heap := h', toks := tk }) : wpAny (model prog w) A (assign (.Name x px) (compEnvC scope cl C env) v) Q E s := by
  refine wpAny_assign_Name (wpAny_storeName_local (env := compEnvC scope cl C env) (lookup_relabel_local hx) hns (fun h₃ hn₃ hs₃ => ?_) (by simp [compEnvC, relabel, hkind]))
  exact hQ h₃ _ _ hn₃ (by simp) fun c o hc e => hs₃.extBut c o hc e
end
section
variable {prog : Program} {w : World} {A : Around} {E : Value → Shared → Prop} {s : Shared} {env : Env} {h₀ : Heap} {body : List Stmt} {target : Expr} {Q : Flow → Shared → Prop}
/- a loop over a list, of the ledger or of the ground -/
theorem iter_lstTurns {ax : Addr} {vs : List Value} {keep news : Led} {m₀ : Str → Option Value} (hh : A.handled = none) (F : Fr h₀ env.locals s.heap m₀) (N : News h₀ env.locals s.heap news) (hk : ∀ p ∈ keep, p ∈ news)
    (hl : s.heap.IsList ax vs.toArray) (hfp : (∃ o, (ax, o) ∈ keep) ∨ ∃ o, h₀.get? ax = some o)
    (J : (Str → Option Value) → Nat → (Str → Option Value) → Led → Prop) (start : J m₀ 0 m₀ news)
    (step : ∀ I, (∀ p ∈ news, p.1 < I) → ∀ i m news v, vs[i]? = some v → J m₀ i m news → ∀ h tk, Fr h₀ env.locals h m → AllObj [(I, "list_iterator")] (fun its => News h₀ env.locals h (its ++ news) →
      wpAny (model prog w) A (assign target env v) (fun _ s₂ => wpAny (model prog w) A (execs body env) (TurnP h₀ env.locals { s with heap := h, toks := tk } its (fun m' n' => (∀ p ∈ keep, p ∈ n') ∧ J m₀ (i + 1) m' n') Q) E s₂) E { s with heap := h, toks := tk }))
    (done : ∀ m news, J m₀ vs.length m news → ∀ h tk, Fr h₀ env.locals h m → News h₀ env.locals h news → Q .next { s with heap := h, toks := tk }) :
    wpAny (model prog w) A (pyIter (.ref ax)) (fun it s₂ => TurnsAt prog w A h₀ env target body Q E it s₂) E s := by
  have hlt : ax < s.heap.objs.size := by obtain ⟨o, e, _⟩ := hl; exact Heap.lt_size e
  have hne : ax ≠ s.heap.objs.size := Nat.ne_of_lt hlt
  refine wpAny_pyIter_list hl ?_
  have W := Walks.list (prog := prog) (w := w) (A := A) hh s.heap.objs.size ax hne vs.toArray
  rw [← List.size_toArray] at done
  refine turnsInv (tk0 := s.toks) (ws := [(s.heap.objs.size, "list_iterator")]) (keep := keep) (KTurns.ofWalks W.bound fun i v s Q E st q => letGo_listiter st.1 q) ?_ ?_ ?_ ?_ ?_ ?_ ?_ (F.push _) (fun p hp => ⟨Heap.get?_push_of_some _ (N p hp).1, (N p hp).2⟩) hk (J m₀) start ?_ done
  · intro i h st
    obtain ⟨it, hit, hic, _⟩ := st.1
    exact ⟨[(s.heap.objs.size, it)], ⟨⟨rfl, hic⟩, trivial⟩, fun p hp => by rw [List.mem_singleton.mp hp]; exact hit⟩
  · intro b hb
    have hb' : b = s.heap.objs.size := by simpa using hb
    rw [hb']
    exact ⟨List.mem_cons_self .., next_is_new F⟩
  · intro b hb
    simpa using hb
  · intro b hb
    have hb' : b = s.heap.objs.size ∨ b = ax := by simpa using hb
    rcases hb' with e | e
    · exact .inl (by simp [e])
    · exact .inr (e ▸ hfp)
  · intro hI
    rcases List.mem_cons.mp hI with e | hI
    · exact absurd F.ns.lt (e ▸ Nat.lt_irrefl _)
    · have e : env.locals = ax := List.mem_singleton.mp hI
      rcases hfp with ⟨o, ho⟩ | ⟨o, ho⟩
      · exact (N _ (hk _ ho)).2.1 e.symm
      · exact Nat.ne_of_lt (Nat.lt_of_lt_of_le (Heap.lt_size ho) F.above) e.symm
  · intro p hp hI
    have e : p.1 = s.heap.objs.size := by simpa using hI
    exact Nat.ne_of_lt (Heap.lt_size (N p hp).1) e
  · exact ⟨⟨_, Heap.get?_push_size _ rfl, rfl, rfl⟩, hl.at fun o e => Heap.get?_push_of_some _ e⟩
  · intro i m news' hi hJ v h tk hv F'
    exact step _ (fun p hp => Heap.lt_size (N p hp).1) i m news' v (by simpa using hv.2) hJ h tk F'
end

section
variable {prog : Program} {w : World} {A : Around} {E : Value → Shared → Prop} {s : Shared} {env : Env} {h₀ : Heap} {body : List Stmt} {x : Str} {px : Pos} {Q : Flow → Shared → Prop}
/- a loop over a range -/
theorem iter_rngTurns {r : Addr} {b₀ : Int} {t₀ u₀ v₀ : Tok} {n : Nat} {news : Led} {m₀ : Str → Option Value} (hh : A.handled = none) (hr : IsRange s.heap r 0 b₀ 1 t₀ u₀ v₀) (hsmall : Builtin.Range.small 0 b₀ 1 = true) (hn : Builtin.Range.rangeSize 0 b₀ 1 = (n : Int))
    (F : Fr h₀ env.locals s.heap m₀) (N : News h₀ env.locals s.heap news)
    (J : (Str → Option Value) → Nat → (Str → Option Value) → Led → Prop) (start : J m₀ 0 m₀ news)
    (step : ∀ I, (∀ p ∈ news, p.1 < I) → ∀ i m news t, i < n → J m₀ i m news → ∀ h tk, Fr h₀ env.locals h m → AllObj [(I, "range_iterator")] (fun its => News h₀ env.locals h (its ++ news) →
      wpAny (model prog w) A (assign (.Name x px) env (.int (i : Nat) t)) (fun _ s₂ => wpAny (model prog w) A (execs body env) (TurnP h₀ env.locals { s with heap := h, toks := tk } its (fun m' n' => J m₀ (i + 1) m' n') Q) E s₂) E { s with heap := h, toks := tk }))
    (done : ∀ m news, J m₀ n m news → ∀ h tk, Fr h₀ env.locals h m → News h₀ env.locals h news → Q .next { s with heap := h, toks := tk }) :
    wpAny (model prog w) A (pyIter (.ref r)) (fun it s₂ => TurnsAt prog w A h₀ env (.Name x px) body Q E it s₂) E s := by
  refine wpAny_pyIter_range hr hsmall ?_
  have W := (Walks.range (prog := prog) (w := w) (A := A) hh s.heap.objs.size 0 1 n)
  refine turnsInv (tk0 := s.toks) (ws := [(s.heap.objs.size, "range_iterator")]) (keep := []) (KTurns.ofWalks W.bound fun i v s Q E st q => wpAny_pure q) ?_ ?_ ?_ ?_ ?_ ?_ ?_ (F.push _) (fun p hp => ⟨Heap.get?_push_of_some _ (N p hp).1, (N p hp).2⟩) (fun _ h => nomatch h) (J m₀) start ?_ done
  · intro i h st
    exact ⟨[(s.heap.objs.size, _)], ⟨⟨rfl, rfl⟩, trivial⟩, fun p hp => by rw [List.mem_singleton.mp hp]; exact st⟩
  · intro b hb
    have hb' : b = s.heap.objs.size := by simpa using hb
    rw [hb']
    exact ⟨List.mem_cons_self .., next_is_new F⟩
  · intro b hb
    simpa using hb
  · intro b hb
    have hb' : b = s.heap.objs.size := by simpa using hb
    exact .inl (by simp [hb'])
  · intro hI
    exact absurd F.ns.lt ((List.mem_singleton.mp hI) ▸ Nat.lt_irrefl _)
  · intro p hp hI
    have e : p.1 = s.heap.objs.size := by simpa using hI
    exact Nat.ne_of_lt (Heap.lt_size (N p hp).1) e
  · show IsRangeIter _ _ _ _ _
    rw [hn]
    simpa using Heap.get?_push_size _ rfl
  · rintro i m news' hi hJ v h tk ⟨_, t, rfl⟩ F'
    have e : (0 : Int) + (i : Int) * 1 = (i : Int) := by lia
    rw [e]
    refine allObj_mono (fun its hi N => wpAny_mono (hi N) (fun _ s₂ h₂ => wpAny_mono h₂ (fun f s₃ p => ?_) fun _ _ e => e) fun _ _ e => e) (step _ (fun p hp => Heap.lt_size (N p hp).1) i m news' t hi hJ h tk F')
    have up : ∀ s₃, UnrEndW h₀ env.locals { s with heap := h, toks := tk } its (fun m' n' => J m₀ (i + 1) m' n') s₃ → UnrEndW h₀ env.locals { s with heap := h, toks := tk } its (fun m' n' => (∀ p ∈ ([] : Led), p ∈ n') ∧ J m₀ (i + 1) m' n') s₃ := by
      rintro s₃ ⟨h', tk', m', news', e, F', N', ho, hJ⟩
      exact ⟨h', tk', m', news', e, F', N', ho, (fun _ h => nomatch h), hJ⟩
    cases f with
    | ret v => exact p
    | brk => exact p
    | next => exact up _ p
    | cont => exact up _ p
end

section
variable {prog : Program} {w : World} {A : Around} {E : Value → Shared → Prop} {s : Shared} {env : Env} {h₀ : Heap} {m : Str → Option Value} {FinP : Shared → Led → (List Value → Led → Prop) → Prop}
theorem zipG_compL {L : Addr} (hL : env.locals = L) {elt : Expr} {ifs : List Expr} {scope : Scope} {cl : List (Str × Addr)} {a b : Str} {pa pb tp : Pos} {kk : Nat} {args : List Value} {x y : Src} {keep news : Led} (hh : A.handled = none) (hargs : args = [x, y].map Src.val)
    (hct : checkTypeCall "zip" ⟨args, []⟩ = pure ()) (hcn : checkBuiltinCall "zip.__new__" ⟨.type "zip" :: args, []⟩ = pure ()) (hok : ∀ obj, argsOk "object.__init__" ⟨obj :: args, []⟩)
    (F : Fr h₀ L s.heap m) (N : News h₀ L s.heap news) (hk : ∀ p ∈ keep, p ∈ news)
    (ok : ∀ z ∈ [x, y], z.ok s.heap) (hn : ∀ z ∈ [x, y], x.n ≤ z.n) (hfp : ∀ z ∈ [x, y], ∀ b ∈ z.fp, (∃ o, (b, o) ∈ keep) ∨ ∃ o, h₀.get? b = some o) (hsz : x.n ≤ sizeLine)
    (hkind : scope.kind = .function) (hxa : scope.names.lookup a = some .local) (hxb : scope.names.lookup b = some .local) (hab : ¬ a = b)
    (J : Nat → List Value → Led → Prop) (h0 : J 0 [] [])
    (step : ∀ I, (∀ p ∈ news, p.1 < I) → ∀ C oC D i ys gr m₂ vx vy h tk (E' : Value → Shared → Prop), i < x.n → ys.length ≤ i → x.P i vx → y.P i vy → m₂ a = some vx → m₂ b = some vy → LCg.NsObj oC m₂ → J i ys gr → Fr h₀ L h m → @Ne Nat C D → (∀ p ∈ gr ++ news, p.1 ≠ C ∧ p.1 ≠ D) →
      CStep prog w A h₀ L m env elt ifs scope cl s (zws I [x, y]) news J C oC D i ys gr h tk E')
    (fin : ∀ h', FinP { s with heap := h' } news (J x.n)) :
    wpAny (model prog w) A (call (.type "zip") args) (fun xv s₁ => wpAny (model prog w) A (pyIter xv) (fun it s₂ => CompAt prog w A h₀ L m env (.Tuple [.Name a pa, .Name b pb] kk tp) elt ifs scope cl FinP it s₂) E s₁) E s := by
  subst hL
  exact zipG_comp hh hargs hct hcn hok F N hk ok hn hfp hsz hkind hxa hxb hab J h0 step fin
end

/- two lists of the same texts are equal -/
open PyProof.V in
theorem ts_canLay : ∀ xs : List Str, (∀ x ∈ xs, PyData.strOk x = true) → PyData.canLayAll0 (xs.map PyData.str) = true
  | [], _ => rfl
  | x :: r, h => by simp [PyData.canLayAll0, PyData.canLay0, ts_canLay r (fun y hy => h y (.tail _ hy)), h x (.head _)]
theorem ts_depth : ∀ xs : List Str, PyData.depthAll (xs.map PyData.str) = 0
  | [] => rfl
  | _ :: r => by simp [PyData.depthAll, PyData.depth, ts_depth r]
theorem ts_shaped (xs : List Str) (h : ∀ x ∈ xs, PyData.strOk x = true) : SeqAt.shaped (.list (xs.map PyData.str)) = true := by
  simp [SeqAt.shaped, PyData.canLay0, PyData.depth, ts_canLay xs h, ts_depth]
theorem ts_same : ∀ xs : List Str, PySem.Spec.sameAll (xs.map PyData.str) (xs.map PyData.str) = true
  | [] => by simp [PySem.Spec.sameAll]
  | x :: r => by simp [PySem.Spec.sameAll, PySem.Spec.same, ts_same r]
theorem ts_carried : ∀ {vs : List Value} {xs : List Str}, Txts vs xs → CarriedAll vs (xs.map PyData.str)
  | _, _, .nil => .nil
  | _, _, .cons _ t r => .cons (.str _ t) (ts_carried r)
/- ascii texts -/
def Asc (x : Str) : Prop := ∀ c ∈ x.cps.toList, c < 128
theorem Asc.ok {x : Str} (h : Asc x) : PyData.strOk x = true := by
  unfold PyData.strOk
  rw [← Array.all_toList, List.all_eq_true]
  exact fun c hc => decide_eq_true (Nat.lt_trans (h c hc) (by decide))
theorem Asc.app {x y : Str} (hx : Asc x) (hy : Asc y) : Asc (x ++ y) := by
  intro c hc
  have hc' : c ∈ (x.cps ++ y.cps).toList := hc
  rw [Array.toList_append] at hc'
  rcases List.mem_append.mp hc' with h | h
  · exact hx c h
  · exact hy c h
theorem Asc.nil : Asc (Str.ofString "") := by
  intro c hc
  rw [show (Str.ofString "").cps.toList = [] by decide] at hc
  cases hc
theorem Asc.one {c : Nat} (h : c < 128) : Asc ⟨#[c]⟩ := by
  intro d hd
  have : d = c := by simpa using hd
  rw [this]; exact h
theorem Asc.strip {x : Str} (h : Asc x) : Asc (Txt.strip x) := by
  unfold Txt.strip Txt.stripBy
  split
  · exact h
  · intro c hc
    refine h c ?_
    unfold PySem.stripped Builtin.Str.strSub at hc
    rw [Array.toList_extract] at hc
    exact List.mem_of_mem_drop (List.mem_of_mem_take (by simpa [List.extract] using hc))
theorem PS.step_asc (p : PS) {c : Nat} (hc : c < 128) (h1 : ∀ y ∈ p.res, Asc y) (h2 : Asc p.part) : (∀ y ∈ (p.step c).res, Asc y) ∧ Asc (p.step c).part := by
  have h3 : Asc (p.part ++ (⟨#[c]⟩ : Str)) := h2.app (.one hc)
  have h4 : ∀ y ∈ p.res ++ [p.part], Asc y := by
    intro y hy
    rcases List.mem_append.mp hy with hy | hy
    · exact h1 y hy
    · rw [List.mem_singleton.mp hy]; exact h2
  unfold PS.step
  repeat' split
  all_goals first | exact ⟨h1, h3⟩ | exact ⟨h1, h2⟩ | exact ⟨h4, .nil⟩
theorem PS.run_asc : ∀ (cs : List Nat) (p : PS), (∀ c ∈ cs, c < 128) → (∀ y ∈ p.res, Asc y) → Asc p.part → ∀ y ∈ (p.run cs).fin, Asc y
  | [], p, _, h1, h2 => by
    intro y hy
    have hy' : y ∈ p.fin := hy
    unfold PS.fin at hy'
    split at hy'
    · exact h1 y hy'
    · rcases List.mem_append.mp hy' with hy | hy
      · exact h1 y hy
      · rw [List.mem_singleton.mp hy]; exact h2
  | c :: cs, p, h, h1, h2 => by
    obtain ⟨a, b⟩ := p.step_asc (h c (.head _)) h1 h2
    exact PS.run_asc cs (p.step c) (fun d hd => h d (.tail _ hd)) a b
theorem fin_ok {X : Str} (h : X.cps.all (· < 128) = true) : ∀ y ∈ (PS.run PS.start X.cps.toList).fin.map Txt.strip, PyData.strOk y = true := by
  intro y hy
  obtain ⟨z, hz, rfl⟩ := List.mem_map.mp hy
  refine (PS.run_asc X.cps.toList PS.start ?_ (fun _ h => nomatch h) .nil z hz).strip.ok
  intro c hc
  rw [← Array.all_toList, List.all_eq_true] at h
  exact of_decide_eq_true (h c hc)
section
variable {prog : Program} {w : World} {A : Around} {E : Value → Shared → Prop} {s : Shared} {a b : Addr} {xs ys : List Value} {ns : List Str} {Q : Value → Shared → Prop}
theorem ne_txts (ha : s.heap.IsList a xs.toArray) (hb : s.heap.IsList b ys.toArray) (hi : Txts xs ns) (hj : Txts ys ns) (hok : ∀ x ∈ ns, PyData.strOk x = true) (hu : A.units + 64 < cLine) (h : Q (.bool false) s) :
    wpAny (model prog w) A (compareOp .NotEq (.ref a) (.ref b)) Q E s :=
  ne_dataH_same (reads_newData ha (ts_carried hi)) (reads_newData hb (ts_carried hj)) (ts_shaped _ hok) (ts_shaped _ hok) hu (SeqAt.noMix_of_shape (.list .str) rfl _ _ (list_map_has fun _ => rfl) (list_map_has fun _ => rfl)) (by rw [show PySem.Spec.same (.list (ns.map PyData.str)) (.list (ns.map PyData.str)) = true by simp only [PySem.Spec.same]; exact ts_same ns]; exact h)
end
/- a name that the turn has not stored -/
theorem stIf {z x : Str} {a b c : Option Value} (h : z ≠ x) (r : b = c) : (if z = x then a else b) = c := (if_neg h).trans r
theorem stCons {rest : Str → Option Value} {z x : Str} {v : Value} {l : List (Str × Value)} {c : Option Value} (h : z ≠ x) (r : kstB rest l z = c) : kstB rest ((x, v) :: l) z = c := (if_neg h).trans r
theorem stNil {rest : Str → Option Value} {z : Str} {c : Option Value} (r : rest z = c) : kstB rest [] z = c := r
theorem stCon {l : List Str} {z : Str} {a b c : Option Value} (h : l.contains z = false) (r : b = c) : (if l.contains z = true then a else b) = c := (if_neg (by rw [h]; exact Bool.false_ne_true)).trans r

def BitOk (x : Str) : Prop := x = Str.ofString "a" ∨ x = Str.ofString "," ∨ x = Str.ofString "\\," ∨ x = Str.ofString "\\\\"
def lastC (x : Str) : Bool := x == Str.ofString "," || x == Str.ofString "\\,"
def twoS (x : Str) : Bool := x == Str.ofString "\\," || x == Str.ofString "\\\\"
/- pieces in the heap -/
inductive Pcs (h : Heap) : List Value → List (List Str) → Prop
  | nil : Pcs h [] []
  | cons {a : Addr} {vs : List Value} {xs : List Str} {rs : List Value} {ps : List (List Str)} (hl : h.IsList a vs.toArray) (ht : Txts vs xs) (r : Pcs h rs ps) : Pcs h (.ref a :: rs) (xs :: ps)
theorem Pcs.length {h : Heap} : ∀ {rs : List Value} {ps : List (List Str)}, Pcs h rs ps → rs.length = ps.length
  | _, _, .nil => rfl
  | _, _, .cons _ _ r => congrArg (· + 1) r.length
theorem Pcs.mono {h h' : Heap} (k : ∀ b o, h.get? b = some o → h'.get? b = some o) : ∀ {rs : List Value} {ps : List (List Str)}, Pcs h rs ps → Pcs h' rs ps
  | _, _, .nil => .nil
  | _, _, .cons hl ht r => .cons (hl.at (k _)) ht (r.mono k)
theorem Pcs.get {h : Heap} : ∀ {rs : List Value} {ps : List (List Str)} {i : Nat} {v : Value}, Pcs h rs ps → rs[i]? = some v → ∃ a vs xs, ps[i]? = some xs ∧ v = Value.ref a ∧ h.IsList a vs.toArray ∧ Txts vs xs
  | _, _, _, _, .nil, h => by simp at h
  | _, _, 0, _, .cons hl ht _, h => ⟨_, _, _, rfl, by simpa using h.symm, hl, ht⟩
  | _, _, i + 1, _, .cons _ _ r, h => by
    obtain ⟨a, vs, xs, e1, e2, e3, e4⟩ := r.get (i := i) (by simpa using h)
    exact ⟨a, vs, xs, by simpa using e1, e2, e3, e4⟩
theorem keep0 {h g : Heap} (hkg : ∀ b o, h.get? b = some o → (∀ q ∈ ([] : Led), q.1 ≠ b) → g.get? b = some o) : ∀ b o, h.get? b = some o → g.get? b = some o := fun b o e => hkg b o e fun _ h => nomatch h
theorem take_filter {α : Type} (p : α → Bool) {l : List α} {i : Nat} {x : α} (h : l[i]? = some x) : (l.take (i + 1)).filter p = (l.take i).filter p ++ (if p x then [x] else []) := by
  rw [List.take_add_one, h]
  simp only [Option.toList_some, List.filter_append]
  congr 1
  cases hp : p x <;> simp [hp]
section
variable {prog : Program} {w : World} {A : Around} {E : Value → Shared → Prop} {s : Shared} {Q : Value → Shared → Prop}
theorem len_txts {D : Addr} {vs : List Value} {xs : List Str} {k : Nat} (hl : s.heap.IsList D vs.toArray) (hi : Txts vs xs) (hk : xs.length = k) (hf : k < 2 ^ 62) (h : Q (.int (k : Nat) (s.toks + 1)) { s with toks := s.toks + 1 + 1 }) :
    wpAny (model prog w) A (call (.builtin "len") [.ref D]) Q E s := by
  have e : vs.toArray.size = k := by simp [hi.length, hk]
  refine Calls.call_len_list hl (by lia) ?_
  rw [e]
  exact h
end
theorem range_small {b : Int} (h0 : 0 ≤ b) (h1 : b ≤ 1000) : Builtin.Range.small 0 b 1 = true := by
  unfold Builtin.Range.small Builtin.Range.rangeFitsLong
  rw [PyProof.Rows.rangeSize_nat]
  simp
  lia
theorem range_n {b : Int} {n : Nat} (h : b = (n : Int)) : Builtin.Range.rangeSize 0 b 1 = ((n : Nat) : Int) := by
  rw [PyProof.Rows.rangeSize_nat]
  lia
section
variable {prog : Program} {w : World} {A : Around} {E : Value → Shared → Prop} {s : Shared} {h₀ : Heap} {L : Addr} {m : Str → Option Value} {env : Env}
open LCg in
/- a comprehension whose element makes nothing that stays -/
theorem comp_mapN {elt : Expr} {x : Str} {scope : Scope} {cl : List (Str × Addr)} {S : Led → Prop} {P : Nat → Value → Prop} {Fin : List Value → Led → Prop} {news : Led} (Rel : Nat → Value → Prop) (hS : S news)
    {n : Nat} (fin : ∀ ys, ys.length = n → (∀ i y, ys[i]? = some y → Rel i y) → Fin ys news)
    (step : ∀ i v, i < n → ∀ I oI C oC D m₂ h tk (E' : Value → Shared → Prop) ys, P i v → NsObj oC m₂ → m₂ x = some v → Fr h₀ L h m → News h₀ L h ((I, oI) :: (C, oC) :: (D, lst ys) :: news) → Off3 I C D news → ((@Ne Nat I C) ∧ (@Ne Nat I D) ∧ (@Ne Nat C D)) →
      wpAny (model prog w) A (eval elt (compEnvC scope cl C env)) (fun y s₂ => ∃ h' tk', s₂ = { s with heap := h', toks := tk' } ∧ Fr h₀ L h' m ∧ News h₀ L h' ((I, oI) :: (C, oC) :: (D, lst ys) :: news) ∧ Rel i y) E' { s with heap := h, toks := tk }) :
    ∀ k i ys, i + k = n → ys.length = i → (∀ j y, ys[j]? = some y → Rel j y) → CompRest prog w A h₀ L m env elt x scope cl s S P Fin k i ys news
  | 0, i, ys, hn, hl, hr => fin ys (hl.trans hn) hr
  | k + 1, i, ys, hn, hl, hr => CompRest.succ fun v I oI C oC D m₂ h tk E' hP hC hx F N off ne => by
    refine wpAny_mono (step i v (by lia) I oI C oC D m₂ h tk E' ys hP hC hx F N off ne) (fun y s₂ hy => ?_) fun _ _ e => e
    obtain ⟨h', tk', rfl, F', N', hrel⟩ := hy
    refine ⟨h', tk', news, rfl, F', N', off, hS, comp_mapN Rel hS fin step k (i + 1) (ys ++ [y]) (by lia) (by simp [hl]) fun j z hz => ?_⟩
    rcases Nat.lt_or_ge j i with hj | hj
    · rw [List.getElem?_append_left (by lia)] at hz
      exact hr j z hz
    · rw [List.getElem?_append_right (by lia)] at hz
      have : j - ys.length = 0 := by
        rcases Nat.eq_zero_or_pos (j - ys.length) with h | h
        · exact h
        · rw [List.getElem?_eq_none (by simp; lia)] at hz; cases hz
      rw [this] at hz
      have e1 : y = z := by simpa using hz
      have e2 : j = i := by lia
      rw [← e1, e2]
      exact hrel
end
section
variable {prog : Program} {w : World} {A : Around} {E : Value → Shared → Prop} {s : Shared}
theorem tup4 {value slice : PySem.Expr} {l : Addr} {v0 v1 v2 v3 : Value} {k : Int} {u : Tok} {Q : Value → Shared → Prop} (ht : IsTup s.heap l [v0, v1, v2, v3].toArray) (h0 : 0 ≤ k) (h1 : k < 4) (h : ∀ v, v = v0 ∨ v = v1 ∨ v = v2 ∨ v = v3 → Q v s)
    (hs : subscripted slice false (.ref l) (.int k u) = operate [.ref l, .int k u] (getItem (.ref l) (.int k u)) := by with_unfolding_all rfl) :
    wpAny (model prog w) A (subscriptTail value slice (.ref l) (.int k u)) Q E s := by
  have hj : seqIndex? k [v0, v1, v2, v3].length = some k.toNat := StrLaws.seqIndex_nonneg h0 h1
  have hk : k = 0 ∨ k = 1 ∨ k = 2 ∨ k = 3 := by lia
  rcases hk with rfl | rfl | rfl | rfl
  · exact item_tupleT ht (by lia) (by decide) hj rfl (h _ (.inl rfl)) hs
  · exact item_tupleT ht (by lia) (by decide) hj rfl (h _ (.inr (.inl rfl))) hs
  · exact item_tupleT ht (by lia) (by decide) hj rfl (h _ (.inr (.inr (.inl rfl)))) hs
  · exact item_tupleT ht (by lia) (by decide) hj rfl (h _ (.inr (.inr (.inr rfl)))) hs
end
def BitRel (v : Value) : Prop := ∃ x t, BitOk x ∧ v = Value.str x t
theorem bitRel4 {v : Value} {t0 t1 t2 t3 : Tok} (h : v = .str (Str.ofString "a") t0 ∨ v = .str (Str.ofString ",") t1 ∨ v = .str (Str.ofString "\\,") t2 ∨ v = .str (Str.ofString "\\\\") t3) : BitRel v := by
  rcases h with h | h | h | h
  · exact ⟨_, _, .inl rfl, h⟩
  · exact ⟨_, _, .inr (.inl rfl), h⟩
  · exact ⟨_, _, .inr (.inr (.inl rfl)), h⟩
  · exact ⟨_, _, .inr (.inr (.inr rfl)), h⟩
theorem bits_of : ∀ {zs : List Value}, (∀ (i : Nat) (y : Value), zs[i]? = some y → BitRel y) → ∃ xs, Txts zs xs ∧ ∀ x ∈ xs, BitOk x
  | [], _ => ⟨[], .nil, fun _ h => nomatch h⟩
  | y :: r, h => by
    obtain ⟨x, t, hx, rfl⟩ := h 0 y rfl
    obtain ⟨xs, a, b⟩ := bits_of (zs := r) fun i y hy => h (i + 1) y (by simpa using hy)
    exact ⟨x :: xs, .cons x t a, List.forall_mem_cons.mpr ⟨hx, b⟩⟩
theorem setLast : ∀ (rv : List Value) (v v' : Value), ki_setL (rv ++ [v]) rv.length v' = some (rv ++ [v'])
  | [], _, _ => rfl
  | x :: r, v, v' => by
    show (ki_setL (x :: (r ++ [v])) (r.length + 1) v') = _
    simp only [ki_setL, setLast r v v']
    rfl
theorem idxLast (rv : List Value) (v : Value) : seqIndex? (-1) (rv ++ [v]).length = some rv.length := by
  unfold seqIndex?
  rw [List.length_append, List.length_singleton]
  simp
  lia
section
variable {prog : Program} {w : World} {A : Around} {E : Value → Shared → Prop} {s : Shared} {h₀ : Heap} {L D : Addr} {m : Str → Option Value} {news news' : Led} {rv : List Value} {n : Nat} {t u : Tok} {v v' : Value}
theorem getLastK {Q : Value → Shared → Prop} (N : News h₀ L s.heap news) (hm : (D, W.listOf (rv ++ [v]).toArray n) ∈ news) (h : Q v s) : wpAny (model prog w) A (getItem (.ref D) (.int (-1) u)) Q E s :=
  kde_getNeg (PySem.IsL.isList (n := n) (N _ hm).1) (by decide) (by decide) (idxLast rv v) (by rw [List.getElem?_append_right (Nat.le_refl _), Nat.sub_self]; rfl) h
theorem setLastK {Q : Unit → Shared → Prop} (F : Fr h₀ L s.heap m) (N : News h₀ L s.heap news) (U : Upd D (W.listOf (rv ++ [v]).toArray n) (W.listOf (rv ++ [v']).toArray n) news news')
    (h : ∀ h', Fr h₀ L h' m → News h₀ L h' news' → Q () { s with heap := h' }) : wpAny (model prog w) A (setItem (.ref D) (.int (-1) t) v') Q E s :=
  ki_setNeg F N (by decide) (by decide) (idxLast rv v) (setLast rv v v') U h
end

theorem sliceInit (rv : List Value) (v : Value) : slicePick (rv ++ [v]).toArray none (some (-1)) none = rv.toArray := by
  rw [slicePick_plain]
  have h : clipAt (rv ++ [v]).toArray.size (-1) = rv.length := by
    unfold clipAt
    rw [List.size_toArray, List.length_append, List.length_singleton, if_pos (by decide)]
    lia
  simp only [Option.elim, List.drop_zero, Nat.sub_zero, h]
  rw [List.take_left']
  rfl
/- the law's reader -/
structure RS where
  dn : List Str
  cur : Str
  q : Bool
def lastS (x : Str) : Str := Txt.item x (-1)
theorem bit_len {x : Str} (h : BitOk x) : 1 ≤ x.length ∧ x.length ≤ 2 := by
  rcases h with rfl | rfl | rfl | rfl <;> decide
theorem lastS_size {x : Str} (h : BitOk x) : (lastS x).cps.size = 1 := by
  rcases h with rfl | rfl | rfl | rfl <;> decide
def initS (x : Str) : Str := if x == Str.ofString "\\," then Str.ofString "\\" else Str.ofString ""
def RS.bit (s : RS) (x : Str) : RS :=
  if s.q then { s with cur := s.cur ++ lastS x } else if lastC x then ⟨s.dn ++ [s.cur ++ initS x], Str.ofString "", false⟩ else { s with cur := s.cur ++ x }
def RS.mark (s : RS) (k : Str) : RS := ⟨s.dn, s.cur ++ k, if k == Str.ofString "\"" then !s.q else s.q⟩
def RS.piece (s : RS) (k : Str) (xs : List Str) : RS := xs.foldl RS.bit (s.mark k)
def RS.run : RS → List Str → List (List Str) → RS
  | s, k :: ks, p :: ps => RS.run (s.piece k p) ks ps
  | s, _, _ => s
def RS.fin (s : RS) : List Str := if s.cur.cps.size = 0 then s.dn else s.dn ++ [s.cur]
def MarkOk (x : Str) : Prop := x = Str.ofString "\"" ∨ x = Str.ofString "'"
def RS.to (s : RS) (ks : List Str) (ps : List (List Str)) : Nat → RS
  | 0 => s
  | i + 1 => (RS.to s ks ps i).piece (ks.getD i (Str.ofString "")) (ps.getD i [])
theorem rs_run : ∀ (ks : List Str) (ps : List (List Str)) (s : RS) (i : Nat), i ≤ ks.length → ks.length = ps.length → RS.run (RS.to s ks ps i) (ks.drop i) (ps.drop i) = RS.run s ks ps
  | ks, ps, s, 0, _, _ => by simp [RS.to]
  | ks, ps, s, i + 1, h, hl => by
    rw [← rs_run ks ps s i (by lia) hl]
    rw [List.drop_eq_getElem_cons (show i < ks.length by lia), List.drop_eq_getElem_cons (show i < ps.length by lia)]
    show _ = RS.run ((RS.to s ks ps i).piece _ _) _ _
    simp only [RS.to, List.getD_eq_getElem?_getD, List.getElem?_eq_getElem (show i < ks.length by lia), List.getElem?_eq_getElem (show i < ps.length by lia), Option.getD_some]
theorem rs_end (ks : List Str) (ps : List (List Str)) (s : RS) (hl : ks.length = ps.length) : RS.to s ks ps ks.length = RS.run s ks ps := by
  have h := rs_run ks ps s ks.length (Nat.le_refl _) hl
  rw [List.drop_length, hl, List.drop_length] at h
  rw [← hl] at h
  simpa [RS.run] using h
/- the rows that the law lays -/
inductive Rws (u : Led) : List Value → List (Int × List Int) → Prop
  | nil : Rws u [] []
  | cons {a b : Addr} {t : Tok} {vs : List Value} {e : Nat} {k : Int} {qs : List Int} {rs : List Value} {rows : List (Int × List Int)} (ha : (a, ({ cls := .type "tuple", data := .seq #[.int k t, .ref b] } : Obj)) ∈ u) (hb : (b, W.listOf vs.toArray e) ∈ u) (hi : IntsAre vs qs) (h : Rws u rs rows) : Rws u (.ref a :: rs) ((k, qs) :: rows)
theorem Rws.length {u : Led} : ∀ {rs : List Value} {rows : List (Int × List Int)}, Rws u rs rows → rs.length = rows.length
  | _, _, .nil => rfl
  | _, _, .cons _ _ _ h => congrArg (· + 1) h.length
theorem Rws.more {u u' : Led} (hs : ∀ p ∈ u, p ∈ u') : ∀ {rs : List Value} {rows : List (Int × List Int)}, Rws u rs rows → Rws u' rs rows
  | _, _, .nil => .nil
  | _, _, .cons ha hb hi h => .cons (hs _ ha) (hs _ hb) hi (h.more hs)
theorem Rws.snoc {u : Led} {a b : Addr} {t : Tok} {vs : List Value} {e : Nat} {k : Int} {qs : List Int} (ha : (a, ({ cls := .type "tuple", data := .seq #[.int k t, .ref b] } : Obj)) ∈ u) (hb : (b, W.listOf vs.toArray e) ∈ u) (hi : IntsAre vs qs) : ∀ {rs : List Value} {rows : List (Int × List Int)}, Rws u rs rows → Rws u (rs ++ [.ref a]) (rows ++ [(k, qs)])
  | _, _, .nil => .cons ha hb hi .nil
  | _, _, .cons ha' hb' hi' h => .cons ha' hb' hi' (h.snoc ha hb hi)
def mkAt (st k : Nat) : Str := if ((st : Int).fdiv (2 ^ k)).fmod 2 = 0 then Str.ofString "'" else Str.ofString "\""
def mksOf (cnt st : Nat) : List Str := (List.range cnt).map (mkAt st)
def joinS (xs : List Str) : Str := Txt.join (Str.ofString "") xs
def segOf : List Str → List (List Str) → List Str
  | k :: ks, p :: ps => (k ++ joinS p) :: segOf ks ps
  | _, _ => []
def textOf (ks : List Str) (ps : List (List Str)) : Str := joinS (segOf (Str.ofString "" :: ks) ps)
def toldOf (ks : List Str) (ps : List (List Str)) : List Str := (RS.run ⟨[], Str.ofString "", false⟩ (Str.ofString "" :: ks) ps).fin
def quoAt (ks : List Str) (k : Nat) : Int := ((((ks.take (k + 1)).filter fun x => x == Str.ofString "\"").length : Nat) : Int).fmod 2
def rowOf (ps : List (List Str)) (cnt st : Nat) : Int × List Int :=
  ((((textOf (mksOf cnt st) ps).length : Nat) : Int) - (((joinS (toldOf (mksOf cnt st) ps)).length : Nat) : Int), (List.range cnt).map (quoAt (mksOf cnt st)))
def rowsOf (ps : List (List Str)) (cnt n : Nat) : List (Int × List Int) := (List.range n).map (rowOf ps cnt)
/- sizes -/
def Sml (n : Nat) (x : Str) : Prop := x.cps.size ≤ n ∧ x.cps.toList.all (· < 128) = true
theorem sml_app {a b : Nat} {x y : Str} (hx : Sml a x) (hy : Sml b y) : Sml (a + b) (x ++ y) := by
  refine ⟨?_, ?_⟩
  · show (x.cps ++ y.cps).size ≤ _
    rw [Array.size_append]; exact Nat.add_le_add hx.1 hy.1
  · show (x.cps ++ y.cps).toList.all _ = _
    rw [Array.toList_append, List.all_append, hx.2, hy.2]; rfl
theorem sml_flat {n : Nat} : ∀ xs : List Str, (∀ x ∈ xs, Sml n x) → (xs.flatMap fun x => x.cps.toList).length ≤ n * xs.length ∧ (xs.flatMap fun x => x.cps.toList).all (· < 128) = true
  | [], _ => ⟨Nat.zero_le _, rfl⟩
  | x :: r, h => by
    obtain ⟨a, b⟩ := sml_flat r fun y hy => h y (.tail _ hy)
    obtain ⟨c, d⟩ := h x (.head _)
    refine ⟨?_, ?_⟩
    · rw [List.flatMap_cons, List.length_append, List.length_cons, Nat.mul_succ, Array.length_toList, Nat.add_comm]
      exact Nat.add_le_add a c
    · rw [List.flatMap_cons, List.all_append, b, d]; rfl
theorem sml_join {n : Nat} {xs : List Str} (h : ∀ x ∈ xs, Sml n x) : Sml (n * xs.length) (joinS xs) := by
  obtain ⟨a, b⟩ := sml_flat xs h
  rw [← join_toList] at a b
  exact ⟨by rw [← Array.length_toList]; exact a, b⟩
theorem sml_mono {a b : Nat} {x : Str} (h : Sml a x) (hab : a ≤ b) : Sml b x := ⟨Nat.le_trans h.1 hab, h.2⟩
theorem bit_sml {x : Str} (h : BitOk x) : Sml 2 x := by
  rcases h with rfl | rfl | rfl | rfl <;> exact ⟨by decide, by decide⟩
theorem mark_sml {x : Str} (h : MarkOk x) : Sml 1 x := by
  rcases h with rfl | rfl <;> exact ⟨by decide, by decide⟩
theorem none_sml : Sml 1 (Str.ofString "") := ⟨by decide, by decide⟩
theorem piece_sml {xs : List Str} (h : xs.length ≤ 2 ∧ ∀ x ∈ xs, BitOk x) : Sml 4 (joinS xs) :=
  sml_mono (sml_join fun x hx => bit_sml (h.2 x hx)) (by have := h.1; lia)
theorem sum_len {n : Nat} : ∀ xs : List Str, (∀ x ∈ xs, x.length ≤ n) → (xs.map (·.length)).sum ≤ n * xs.length
  | [], _ => Nat.zero_le _
  | x :: r, h => by
    have a := sum_len r fun y hy => h y (.tail _ hy)
    have c : x.length ≤ n := h x (.head _)
    rw [List.map_cons, List.sum_cons, List.length_cons, Nat.mul_succ, Nat.add_comm]
    exact Nat.add_le_add a c
theorem mkAt_ok (i k : Nat) : MarkOk (mkAt i k) := by
  unfold mkAt
  split
  · exact .inr rfl
  · exact .inl rfl
theorem mksOf_ok (cnt i : Nat) : ∀ x ∈ mksOf cnt i, MarkOk x := by
  intro x hx
  obtain ⟨k, _, rfl⟩ := List.mem_map.mp hx
  exact mkAt_ok i k
theorem seg_len : ∀ (ks : List Str) (ps : List (List Str)), ks.length = ps.length → (segOf ks ps).length = ps.length
  | [], [], _ => rfl
  | [], _ :: _, h => nomatch h
  | _ :: _, [], h => nomatch h
  | _ :: ks, _ :: ps, h => congrArg (· + 1) (seg_len ks ps (by simpa using h))
theorem seg_get : ∀ {ks : List Str} {ps : List (List Str)} {j : Nat} {k : Str} {p : List Str}, ks[j]? = some k → ps[j]? = some p → (segOf ks ps)[j]? = some (k ++ joinS p)
  | [], _, _, _, _, h, _ => by simp at h
  | _ :: _, [], _, _, _, _, h => by simp at h
  | _ :: _, _ :: _, 0, _, _, h, h' => by
    simp only [List.getElem?_cons_zero, Option.some.injEq] at h h'
    subst h h'
    rfl
  | _ :: ks, _ :: ps, j + 1, _, _, h, h' => by
    show (segOf ks ps)[j]? = _
    exact seg_get (by simpa using h) (by simpa using h')
theorem seg_sml : ∀ (ks : List Str) (ps : List (List Str)), (∀ k ∈ ks, Sml 1 k) → (∀ xs ∈ ps, xs.length ≤ 2 ∧ ∀ x ∈ xs, BitOk x) → ∀ x ∈ segOf ks ps, Sml 5 x
  | [], _, _, _, _, h => nomatch h
  | _ :: _, [], _, _, _, h => nomatch h
  | k :: ks, p :: ps, hk, hp, x, h => by
    rcases List.mem_cons.mp h with rfl | h
    · exact sml_app (hk k (.head _)) (piece_sml (hp p (.head _)))
    · exact seg_sml ks ps (fun y hy => hk y (.tail _ hy)) (fun y hy => hp y (.tail _ hy)) x h
theorem text_sml {ks : List Str} {ps : List (List Str)} (hk : ∀ x ∈ ks, MarkOk x) (hp : ∀ xs ∈ ps, xs.length ≤ 2 ∧ ∀ x ∈ xs, BitOk x) (hl : ps.length = ks.length + 1) : Sml (5 * ps.length) (textOf ks ps) := by
  have h1 : ∀ x ∈ segOf (Str.ofString "" :: ks) ps, Sml 5 x := seg_sml _ _ (List.forall_mem_cons.mpr ⟨none_sml, fun x hx => mark_sml (hk x hx)⟩) hp
  have h2 := sml_join h1
  rw [seg_len _ _ (by rw [List.length_cons, hl])] at h2
  exact h2
/- the reader's sizes -/
def RB (n : Nat) (s : RS) : Prop := s.dn.length ≤ n ∧ s.cur.cps.size ≤ 2 * n ∧ ∀ y ∈ s.dn, y.cps.size ≤ 2 * n
theorem app_size (x y : Str) : (x ++ y).cps.size = x.cps.size + y.cps.size := Array.size_append ..
theorem initS_size {x : Str} : (initS x).cps.size ≤ 1 := by
  unfold initS
  split <;> decide
theorem RB.bit {n : Nat} {s : RS} {x : Str} (h : RB n s) (hx : BitOk x) : RB (n + 1) (s.bit x) := by
  obtain ⟨h1, h2, h3⟩ := h
  have hz := (bit_sml hx).1
  have hz2 := lastS_size hx
  have hz3 := initS_size (x := x)
  unfold RS.bit
  split
  · exact ⟨Nat.le_succ_of_le h1, by show (s.cur ++ lastS x).cps.size ≤ _; rw [app_size]; lia, fun y hy => Nat.le_trans (h3 y hy) (by lia)⟩
  split
  · refine ⟨by show (s.dn ++ [_]).length ≤ _; rw [List.length_append]; exact Nat.succ_le_succ h1, Nat.zero_le _, fun y hy => ?_⟩
    rcases List.mem_append.mp hy with hy | hy
    · exact Nat.le_trans (h3 y hy) (by lia)
    · rw [List.mem_singleton.mp hy, app_size]; lia
  · exact ⟨Nat.le_succ_of_le h1, by show (s.cur ++ x).cps.size ≤ _; rw [app_size]; lia, fun y hy => Nat.le_trans (h3 y hy) (by lia)⟩
theorem RB.bits {n : Nat} : ∀ {xs : List Str} {s : RS}, RB n s → (∀ x ∈ xs, BitOk x) → RB (n + xs.length) (xs.foldl RS.bit s)
  | [], _, h, _ => h
  | x :: r, s, h, hx => by
    have := RB.bits (n := n + 1) (xs := r) (h.bit (hx x (.head _))) fun y hy => hx y (.tail _ hy)
    rw [List.length_cons, Nat.add_comm r.length 1, ← Nat.add_assoc]
    exact this
theorem RB.mark {n : Nat} {s : RS} {k : Str} (h : RB n s) (hk : Sml 1 k) : RB (n + 1) (s.mark k) := by
  obtain ⟨h1, h2, h3⟩ := h
  have := hk.1
  exact ⟨Nat.le_succ_of_le h1, by show (s.cur ++ k).cps.size ≤ _; rw [app_size]; lia, fun y hy => Nat.le_trans (h3 y hy) (by lia)⟩
theorem RB.mono {a b : Nat} {s : RS} (h : RB a s) (hab : a ≤ b) : RB b s := ⟨Nat.le_trans h.1 hab, Nat.le_trans h.2.1 (by lia), fun y hy => Nat.le_trans (h.2.2 y hy) (by lia)⟩
theorem RB.run : ∀ {ks : List Str} {ps : List (List Str)} {n : Nat} {s : RS}, RB n s → (∀ k ∈ ks, Sml 1 k) → (∀ xs ∈ ps, xs.length ≤ 2 ∧ ∀ x ∈ xs, BitOk x) → RB (n + 3 * ps.length) (RS.run s ks ps)
  | [], ps, n, s, h, _, _ => by
    have e : RS.run s [] ps = s := by cases ps <;> rfl
    rw [e]; exact h.mono (Nat.le_add_right _ _)
  | _ :: _, [], _, _, h, _, _ => h.mono (Nat.le_add_right _ _)
  | k :: ks, p :: ps, n, s, h, hk, hp => by
    have h1 := (h.mark (hk k (.head _))).bits (hp p (.head _)).2
    have h2 : RB (n + 3) (s.piece k p) := h1.mono (by have := (hp p (.head _)).1; lia)
    have h3 := RB.run (ks := ks) (ps := ps) h2 (fun y hy => hk y (.tail _ hy)) (fun y hy => hp y (.tail _ hy))
    refine h3.mono ?_
    rw [List.length_cons]; lia
theorem told_small {ks : List Str} {ps : List (List Str)} (hk : ∀ x ∈ ks, MarkOk x) (hp : ∀ xs ∈ ps, xs.length ≤ 2 ∧ ∀ x ∈ xs, BitOk x) (hl : ps.length ≤ 5) : (toldOf ks ps).length ≤ 16 ∧ ∀ y ∈ toldOf ks ps, y.length ≤ 30 := by
  have h : RB (0 + 3 * ps.length) (RS.run ⟨[], Str.ofString "", false⟩ (Str.ofString "" :: ks) ps) :=
    RB.run ⟨Nat.le_refl _, Nat.le_refl _, fun _ h => nomatch h⟩ (List.forall_mem_cons.mpr ⟨none_sml, fun x hx => mark_sml (hk x hx)⟩) hp
  obtain ⟨h1, h2, h3⟩ := h.mono (b := 15) (by lia)
  unfold toldOf RS.fin
  split
  · exact ⟨by lia, fun y hy => h3 y hy⟩
  · refine ⟨by rw [List.length_append, List.length_singleton]; lia, fun y hy => ?_⟩
    rcases List.mem_append.mp hy with hy | hy
    · exact h3 y hy
    · rw [List.mem_singleton.mp hy]; exact h2

/- the reader and the law's reader -/
def RS.toP (s : RS) : PS := ⟨s.dn, s.cur, false, s.q⟩
theorem str_nil (x : Str) : x ++ Str.ofString "" = x := by
  show (⟨x.cps ++ #[]⟩ : Str) = x
  rw [Array.append_empty]
theorem str_two (x : Str) (a b : Nat) : (x ++ (⟨#[a]⟩ : Str)) ++ (⟨#[b]⟩ : Str) = x ++ (⟨#[a, b]⟩ : Str) := by
  show (⟨(x.cps ++ #[a]) ++ #[b]⟩ : Str) = ⟨x.cps ++ #[a, b]⟩
  rw [Array.append_assoc]; rfl
theorem run_app (p : PS) (a b : List Nat) : PS.run p (a ++ b) = PS.run (PS.run p a) b := List.foldl_append ..
theorem sim_bit (s : RS) {x : Str} (h : BitOk x) : PS.run s.toP x.cps.toList = (s.bit x).toP := by
  obtain ⟨dn, cur, q⟩ := s
  rcases h with rfl | rfl | rfl | rfl <;> cases q
  · rfl
  · rfl
  · show (⟨dn ++ [cur], Str.ofString "", false, false⟩ : PS) = ⟨dn ++ [cur ++ Str.ofString ""], Str.ofString "", false, false⟩
    rw [str_nil]
  · rfl
  · rfl
  · rfl
  · show (⟨dn, (cur ++ (⟨#[92]⟩ : Str)) ++ (⟨#[92]⟩ : Str), false, false⟩ : PS) = ⟨dn, cur ++ (⟨#[92, 92]⟩ : Str), false, false⟩
    rw [str_two]
  · rfl
theorem sim_bits : ∀ (xs : List Str) (s : RS), (∀ x ∈ xs, BitOk x) → PS.run s.toP (xs.flatMap fun x => x.cps.toList) = (xs.foldl RS.bit s).toP
  | [], _, _ => rfl
  | x :: r, s, h => by
    rw [List.flatMap_cons, run_app, sim_bit s (h x (.head _))]
    exact sim_bits r _ fun y hy => h y (.tail _ hy)
theorem sim_mark (s : RS) {k : Str} (h : k = Str.ofString "" ∨ MarkOk k) : PS.run s.toP k.cps.toList = (s.mark k).toP := by
  obtain ⟨dn, cur, q⟩ := s
  rcases h with rfl | rfl | rfl
  · show (⟨dn, cur, false, q⟩ : PS) = ⟨dn, cur ++ Str.ofString "", false, q⟩
    rw [str_nil]
  · cases q <;> rfl
  · cases q <;> rfl
theorem sim_run : ∀ (ks : List Str) (ps : List (List Str)) (s : RS), (∀ k ∈ ks, k = Str.ofString "" ∨ MarkOk k) → (∀ xs ∈ ps, ∀ x ∈ xs, BitOk x) →
    PS.run s.toP ((segOf ks ps).flatMap fun x => x.cps.toList) = (RS.run s ks ps).toP
  | [], ps, s, _, _ => by
    have e : RS.run s [] ps = s := by cases ps <;> rfl
    rw [e]; rfl
  | _ :: _, [], _, _, _ => rfl
  | k :: ks, p :: ps, s, hk, hp => by
    show PS.run s.toP (((k ++ joinS p) :: segOf ks ps).flatMap _) = _
    rw [List.flatMap_cons, run_app]
    have e : (k ++ joinS p).cps.toList = k.cps.toList ++ (p.flatMap fun x => x.cps.toList) := by
      show (k.cps ++ (joinS p).cps).toList = _
      rw [Array.toList_append, ← join_toList]; rfl
    rw [e, run_app, sim_mark s (hk k (.head _)), sim_bits p _ (hp p (.head _))]
    exact sim_run ks ps _ (fun y hy => hk y (.tail _ hy)) fun y hy => hp y (.tail _ hy)
/- no sign is a blank -/
def NoSp (x : Str) : Prop := ∀ c ∈ x.cps.toList, Unicode.isSpace c = false
theorem noSp_strip {x : Str} (h : NoSp x) : Txt.strip x = x := by
  have h0 : ∀ l : List Nat, (∀ c ∈ l, Unicode.isSpace c = false) → l.takeWhile Unicode.isSpace = [] := by
    intro l hl
    cases l with
    | nil => rfl
    | cons c r => rw [List.takeWhile_cons, hl c (.head _)]; rfl
  unfold Txt.strip Txt.stripBy
  split
  · rfl
  · unfold PySem.stripped PySem.stripHi PySem.stripLo
    simp only [if_true]
    rw [h0 _ h, List.length_nil, List.drop_zero, h0 _ (fun c hc => h c (List.mem_reverse.mp hc)), List.length_nil, Nat.sub_zero]
    unfold Builtin.Str.strSub
    show (⟨x.cps.extract 0 x.cps.size⟩ : Str) = x
    rw [Array.extract_size]
theorem noSp_app {x y : Str} (hx : NoSp x) (hy : NoSp y) : NoSp (x ++ y) := by
  intro c hc
  have hc : c ∈ (x.cps ++ y.cps).toList := hc
  rw [Array.toList_append] at hc
  rcases List.mem_append.mp hc with h | h
  · exact hx c h
  · exact hy c h
theorem noSp_nil : NoSp (Str.ofString "") := fun _ h => nomatch h
theorem noSp_of {x : Str} (h : x.cps.toList.all (fun c => !Unicode.isSpace c) = true) : NoSp x := fun c hc => by
  have := List.all_eq_true.mp h c hc
  simpa using this
theorem noSp_bit {x : Str} (h : BitOk x) : NoSp x ∧ NoSp (lastS x) ∧ NoSp (initS x) := by
  rcases h with rfl | rfl | rfl | rfl <;> exact ⟨noSp_of (by decide), noSp_of (by decide), noSp_of (by decide)⟩
def NS (s : RS) : Prop := NoSp s.cur ∧ ∀ y ∈ s.dn, NoSp y
theorem NS.bit {s : RS} {x : Str} (h : NS s) (hx : BitOk x) : NS (s.bit x) := by
  obtain ⟨h1, h2⟩ := h
  obtain ⟨b1, b2, b3⟩ := noSp_bit hx
  unfold RS.bit
  split
  · exact ⟨noSp_app h1 b2, h2⟩
  split
  · refine ⟨noSp_nil, fun y hy => ?_⟩
    rcases List.mem_append.mp hy with hy | hy
    · exact h2 y hy
    · rw [List.mem_singleton.mp hy]; exact noSp_app h1 b3
  · exact ⟨noSp_app h1 b1, h2⟩
theorem NS.bits : ∀ {xs : List Str} {s : RS}, NS s → (∀ x ∈ xs, BitOk x) → NS (xs.foldl RS.bit s)
  | [], _, h, _ => h
  | x :: r, s, h, hx => NS.bits (xs := r) (h.bit (hx x (.head _))) fun y hy => hx y (.tail _ hy)
theorem noSp_mark {k : Str} (h : k = Str.ofString "" ∨ MarkOk k) : NoSp k := by
  rcases h with rfl | rfl | rfl
  · exact noSp_nil
  · exact noSp_of (by decide)
  · exact noSp_of (by decide)
theorem NS.run : ∀ {ks : List Str} {ps : List (List Str)} {s : RS}, NS s → (∀ k ∈ ks, k = Str.ofString "" ∨ MarkOk k) → (∀ xs ∈ ps, ∀ x ∈ xs, BitOk x) → NS (RS.run s ks ps)
  | [], ps, s, h, _, _ => by
    have e : RS.run s [] ps = s := by cases ps <;> rfl
    rw [e]; exact h
  | _ :: _, [], _, h, _, _ => h
  | k :: ks, p :: ps, s, h, hk, hp => by
    have h1 : NS (s.mark k) := ⟨noSp_app h.1 (noSp_mark (hk k (.head _))), h.2⟩
    exact NS.run (ks := ks) (ps := ps) (h1.bits (hp p (.head _))) (fun y hy => hk y (.tail _ hy)) fun y hy => hp y (.tail _ hy)
theorem parse_read {ks : List Str} {ps : List (List Str)} (hk : ∀ x ∈ ks, MarkOk x) (hp : ∀ xs ∈ ps, xs.length ≤ 2 ∧ ∀ x ∈ xs, BitOk x) : (PS.run PS.start (textOf ks ps).cps.toList).fin.map Txt.strip = toldOf ks ps := by
  have hk' : ∀ k ∈ Str.ofString "" :: ks, k = Str.ofString "" ∨ MarkOk k := List.forall_mem_cons.mpr ⟨.inl rfl, fun x hx => .inr (hk x hx)⟩
  have hp' : ∀ xs ∈ ps, ∀ x ∈ xs, BitOk x := fun xs hx => (hp xs hx).2
  have e1 : (textOf ks ps).cps.toList = (segOf (Str.ofString "" :: ks) ps).flatMap fun x => x.cps.toList := by
    rw [← join_toList]; rfl
  have e2 := sim_run (Str.ofString "" :: ks) ps ⟨[], Str.ofString "", false⟩ hk' hp'
  have e3 : PS.run PS.start (textOf ks ps).cps.toList = (RS.run ⟨[], Str.ofString "", false⟩ (Str.ofString "" :: ks) ps).toP := by
    rw [e1, ← e2]; rfl
  have hns : NS (RS.run ⟨[], Str.ofString "", false⟩ (Str.ofString "" :: ks) ps) := NS.run ⟨noSp_nil, fun _ h => nomatch h⟩ hk' hp'
  rw [e3]
  show List.map Txt.strip (toldOf ks ps) = toldOf ks ps
  have hall : ∀ y ∈ toldOf ks ps, Txt.strip y = y := by
    intro y hy
    refine noSp_strip ?_
    unfold toldOf RS.fin at hy
    split at hy
    · exact hns.2 y hy
    · rcases List.mem_append.mp hy with hy | hy
      · exact hns.2 y hy
      · rw [List.mem_singleton.mp hy]; exact hns.1
  rw [List.map_congr_left hall, List.map_id']

theorem Txts.take : ∀ {vs : List Value} {xs : List Str} (n : Nat), Txts vs xs → Txts (vs.take n) (xs.take n)
  | _, _, 0, _ => .nil
  | _, _, _ + 1, .nil => .nil
  | _, _, n + 1, .cons x t h => .cons x t (h.take n)
theorem cnt_in (k : Str) : ∀ ys : List Str, PySem.Spec.countIn (.str k) (ys.map PyData.str) = (((ys.filter fun x => x == k).length : Nat) : Int)
  | [] => rfl
  | y :: r => by
    rw [List.map_cons, PySem.Spec.countIn, cnt_in k r, List.filter_cons]
    have e : PySem.Spec.same (.str y) (.str k) = (y == k) := by simp only [PySem.Spec.same]
    rw [e]
    cases y == k
    · simp
    · simp only [if_true, List.length_cons]; lia
section
variable {prog : Program} {w : World} {A : Around} {E : Value → Shared → Prop} {s : Shared} {h₀ : Heap} {L : Addr} {m : Str → Option Value} {Q : Value → Shared → Prop}
theorem cnt_slice {D : Addr} {vs : List Value} {xs : List Str} {b : Int} {n : Nat} {k : Str} {t : Tok} {news : Led} (N : News h₀ L s.heap news) (hm : (D, W.listOf (slicePick vs.toArray none (some b) none) 0) ∈ news) (ht : Txts vs xs) (hb : b = (n : Int))
    (h : Q (.int (((xs.take n).filter fun x => x == k).length : Nat) s.toks) { s with toks := s.toks + 1 }) : wpAny (model prog w) A (call (.builtin "list.count") [.ref D, .str k t]) Q E s := by
  have e : slicePick vs.toArray none (some b) none = (vs.take n).toArray := by subst hb; rw [slicePick_upto']
  have hl : s.heap.IsList D (vs.take n).toArray := ⟨_, (N _ hm).1, rfl, 0, by rw [e]⟩
  refine count_list_strs hl (strsOf (ht.take n)) ?_
  rw [cnt_in]
  exact h
end

section
variable {prog : Program} {w : World} {A : Around} {E : Value → Shared → Prop} {s : Shared} {h₀ : Heap} {L : Addr} {m : Str → Option Value} {env : Env}
open LCg in
/- a comprehension whose element leaves objects behind -/
theorem comp_grow {elt : Expr} {x : Str} {scope : Scope} {cl : List (Str × Addr)} {S : Led → Prop} {P : Nat → Value → Prop} {Fin : List Value → Led → Prop} (J : Nat → List Value → Led → Prop)
    {n : Nat} (fin : ∀ ys nw, J n ys nw → Fin ys nw)
    (step : ∀ i v, i < n → ∀ I oI C oC D m₂ h tk (E' : Value → Shared → Prop) ys nw, P i v → NsObj oC m₂ → m₂ x = some v → Fr h₀ L h m → News h₀ L h ((I, oI) :: (C, oC) :: (D, lst ys) :: nw) → J i ys nw → (∀ p ∈ nw, p.1 ≠ I ∧ p.1 ≠ C ∧ p.1 ≠ D) →
      wpAny (model prog w) A (eval elt (compEnvC scope cl C env)) (fun y s₂ => ∃ h' tk' nw', s₂ = { s with heap := h', toks := tk' } ∧ Fr h₀ L h' m ∧ News h₀ L h' ((I, oI) :: (C, oC) :: (D, lst ys) :: nw') ∧ (∀ p ∈ nw', p.1 ≠ I ∧ p.1 ≠ C ∧ p.1 ≠ D) ∧ S nw' ∧ J (i + 1) (ys ++ [y]) nw') E' { s with heap := h, toks := tk }) :
    ∀ k i ys nw, i + k = n → J i ys nw → CompRest prog w A h₀ L m env elt x scope cl s S P Fin k i ys nw
  | 0, i, ys, nw, hn, hj => by
    have e : i = n := hn
    subst e
    exact fin ys nw hj
  | k + 1, i, ys, nw, hn, hj => CompRest.succ fun v I oI C oC D m₂ h tk E' hP hC hx F N off ne => by
    refine wpAny_mono (step i v (by lia) I oI C oC D m₂ h tk E' ys nw hP hC hx F N hj off.mem) (fun y s₂ hy => ?_) fun _ _ e => e
    obtain ⟨h', tk', nw', rfl, F', N', off', hS, hj'⟩ := hy
    exact ⟨h', tk', nw', rfl, F', N', Off3.of off', hS, comp_grow J fin step k (i + 1) (ys ++ [y]) nw' (by lia) hj'⟩
end
/- pieces in the ledger -/
inductive Pls (u : Led) : List Value → List (List Str) → Prop
  | nil : Pls u [] []
  | cons {a : Addr} {vs : List Value} {xs : List Str} {e : Nat} {rs : List Value} {ps : List (List Str)} (hl : (a, W.listOf vs.toArray e) ∈ u) (ht : Txts vs xs) (r : Pls u rs ps) : Pls u (.ref a :: rs) (xs :: ps)
theorem Pls.more {u u' : Led} (hs : ∀ p ∈ u, p ∈ u') : ∀ {rs : List Value} {ps : List (List Str)}, Pls u rs ps → Pls u' rs ps
  | _, _, .nil => .nil
  | _, _, .cons hl ht r => .cons (hs _ hl) ht (r.more hs)
theorem Pls.length {u : Led} : ∀ {rs : List Value} {ps : List (List Str)}, Pls u rs ps → rs.length = ps.length
  | _, _, .nil => rfl
  | _, _, .cons _ _ r => congrArg (· + 1) r.length
theorem Pls.snoc {u : Led} {a : Addr} {vs : List Value} {xs : List Str} {e : Nat} (hl : (a, W.listOf vs.toArray e) ∈ u) (ht : Txts vs xs) : ∀ {rs : List Value} {ps : List (List Str)}, Pls u rs ps → Pls u (rs ++ [.ref a]) (ps ++ [xs])
  | _, _, .nil => .cons hl ht .nil
  | _, _, .cons hl' ht' r => .cons hl' ht' (r.snoc hl ht)
theorem Pls.pcs {u : Led} {h₀ h : Heap} {L : Addr} (N : News h₀ L h u) : ∀ {rs : List Value} {ps : List (List Str)}, Pls u rs ps → Pcs h rs ps
  | _, _, .nil => .nil
  | _, _, .cons hl ht r => .cons ⟨_, (N _ hl).1, rfl, _, rfl⟩ ht (r.pcs N)
theorem Pls.get {u : Led} : ∀ {rs : List Value} {ps : List (List Str)} {i : Nat} {v : Value}, Pls u rs ps → rs[i]? = some v → ∃ a vs xs e, ps[i]? = some xs ∧ v = Value.ref a ∧ (a, W.listOf vs.toArray e) ∈ u ∧ Txts vs xs
  | _, _, _, _, .nil, h => by simp at h
  | _, _, 0, _, .cons hl ht _, h => ⟨_, _, _, _, rfl, by simpa using h.symm, hl, ht⟩
  | _, _, i + 1, _, .cons _ _ r, h => by
    obtain ⟨a, vs, xs, e, e1, e2, e3, e4⟩ := r.get (i := i) (by simpa using h)
    exact ⟨a, vs, xs, e, by simpa using e1, e2, e3, e4⟩
theorem Rws.get {u : Led} : ∀ {rs : List Value} {rows : List (Int × List Int)} {i : Nat} {v : Value}, Rws u rs rows → rs[i]? = some v →
    ∃ a b t vs e k qs, rows[i]? = some (k, qs) ∧ v = Value.ref a ∧ (a, ({ cls := .type "tuple", data := .seq #[.int k t, .ref b] } : Obj)) ∈ u ∧ (b, W.listOf vs.toArray e) ∈ u ∧ IntsAre vs qs
  | _, _, _, _, .nil, h => by simp at h
  | _, _, 0, _, .cons ha hb hi _, h => ⟨_, _, _, _, _, _, _, rfl, by simpa using h.symm, ha, hb, hi⟩
  | _, _, i + 1, _, .cons _ _ _ r, h => by
    obtain ⟨a, b, t, vs, e, k, qs, e1, e2, e3, e4, e5⟩ := r.get (i := i) (by simpa using h)
    exact ⟨a, b, t, vs, e, k, qs, by simpa using e1, e2, e3, e4, e5⟩
section
variable {prog : Program} {w : World} {A : Around} {E : Value → Shared → Prop} {s : Shared} {Q : Unit → Shared → Prop} {x : Env} {env : Str} {t : Tok} {v : Int}
theorem store3 (h : ∀ cnt : Nat, (cnt = 3 ∨ cnt = 4) → wpAny (model prog w) A (storeName x env (.int (cnt : Int) t)) Q E s) : wpAny (model prog w) A (storeName x env (.int (3 + v.fmod 2) t)) Q E s := by
  have h1 := Int.fmod_nonneg_of_pos v (show (0 : Int) < 2 by decide)
  have h2 := Int.fmod_lt_of_pos v (show (0 : Int) < 2 by decide)
  have h3 := h (3 + v.fmod 2).toNat (by lia)
  rw [show (((3 + v.fmod 2).toNat : Nat) : Int) = 3 + v.fmod 2 by lia] at h3
  exact h3
theorem store5 (h : ∀ wd : Nat, 5 ≤ wd → wd ≤ 12 → wpAny (model prog w) A (storeName x env (.int (wd : Int) t)) Q E s) : wpAny (model prog w) A (storeName x env (.int (5 + v.fmod 8) t)) Q E s := by
  have h1 := Int.fmod_nonneg_of_pos v (show (0 : Int) < 8 by decide)
  have h2 := Int.fmod_lt_of_pos v (show (0 : Int) < 8 by decide)
  have h3 := h (5 + v.fmod 8).toNat (by lia) (by lia)
  rw [show (((5 + v.fmod 8).toNat : Nat) : Int) = 5 + v.fmod 8 by lia] at h3
  exact h3
end
def numB (x : Int) : Prop := 0 ≤ x ∧ x < 10 ^ 6
theorem nums_ok (ns : List Int) : ∀ x ∈ (ns.take 5).map (fun k => Int.fmod k (10 ^ Int.toNat 6)) ++ List.drop (((ns.take 5).map (fun k => Int.fmod k (10 ^ Int.toNat 6))).length : Int).toNat [5, 17, 44, 41, 7], numB x := by
  intro x hx
  rcases List.mem_append.mp hx with h | h
  · obtain ⟨y, _, rfl⟩ := List.mem_map.mp h
    exact ⟨Int.fmod_nonneg_of_pos _ (by decide), Int.fmod_lt_of_pos _ (by decide)⟩
  · have h := List.mem_of_mem_drop h
    revert h
    show x ∈ [(5 : Int), 17, 44, 41, 7] → _
    intro h
    simp only [List.mem_cons, List.not_mem_nil, or_false] at h
    unfold numB
    lia
theorem nums_len (ns : List Int) : ((ns.take 5).map (fun k => Int.fmod k (10 ^ Int.toNat 6)) ++ List.drop (((ns.take 5).map (fun k => Int.fmod k (10 ^ Int.toNat 6))).length : Int).toNat [5, 17, 44, 41, 7]).length = 5 := by
  rw [List.length_append, List.length_drop, List.length_map, List.length_take, Int.toNat_natCast]
  show _ + (5 - _) = 5
  lia
/- the law's ledger behind its first lines -/
inductive LN1 (h₀ h : Heap) (L DP : Addr) (vP : List Value) (c : Nat) : Prop
  | mk (ms : List Int) (oK oL : Obj) (vK vL : Option Value) (base : Led) (e1 : base = [(DP, W.listOf vP.toArray 0), (L + 1 + 1, oK), (L + 1, oL), (37, tabObj #[]), (30, tabObj #[])]) (e2 : News h₀ L h base) (e3 : (DP, W.listOf vP.toArray 0) ∈ base) (e4 : IntsAre vP ms) (e5 : ms.length = c + 1) (e6 : ∀ x ∈ ms, numB x) (e7 : oK.data = .cell vK) (e8 : oL.data = .cell vL)
theorem lawNews {h₀ h : Heap} {L DP : Addr} {vP : List Value} {ns : List Int} {c : Nat} {l : Led} {oK oL : Obj} {vK vL : Option Value} (N : News h₀ L h l) (hi : IntsAre vP (((ns.take 5).map (fun k => Int.fmod k (10 ^ Int.toNat 6)) ++ List.drop (((ns.take 5).map (fun k => Int.fmod k (10 ^ Int.toNat 6))).length : Int).toNat [5, 17, 44, 41, 7]).take ((c : Int) + 1).toNat))
    (hc : c = 3 ∨ c = 4) (hK : oK.data = .cell vK) (hL : oL.data = .cell vL) (hs : ∀ p ∈ [(DP, W.listOf vP.toArray 0), (L + 1 + 1, oK), (L + 1, oL), (37, tabObj #[]), (30, tabObj #[])], p ∈ l) :
    LN1 h₀ h L DP vP c := by
  refine ⟨_, oK, oL, vK, vL, _, rfl, newsSub N hs, .head _, hi, ?_, fun x hx => nums_ok ns x (List.mem_of_mem_take hx), hK, hL⟩
  rw [List.length_take, nums_len]
  lia
theorem off1_mem {D : Addr} : ∀ {l : Led}, LCg.Off1 D l → ∀ p ∈ l, p.1 ≠ D
  | [], _, _, h => nomatch h
  | p :: _, o, q, h => by
    rcases List.mem_cons.mp h with rfl | h
    · exact o.1
    · exact off1_mem o.2 q h
inductive LN2 (h₀ h : Heap) (L rR D8 : Addr) (oR oD oK oL : Obj) (flR fl : Led) : Prop
  | mk (U t : Led) (e1 : TB t) (e2 : News h₀ L h ((rR, oR) :: (D8, oD) :: (L + 1 + 1, oK) :: (L + 1, oL) :: (U ++ t))) (e3 : ∀ p ∈ flR, p ∈ U) (e4 : ∀ p ∈ fl, p ∈ U) (e5 : ∀ p ∈ U, p.1 ≠ rR) (e6 : ∀ p ∈ U, p.1 ≠ D8) (e7 : ∀ p ∈ U, p.1 ≠ L + 1 + 1) (e8 : ∀ p ∈ U, p.1 ≠ L + 1) (e9 : Dis U t)
    (f1 : D8 ≠ rR) (f2 : L + 1 + 1 ≠ rR) (f3 : L + 1 ≠ rR) (f4 : L + 1 + 1 ≠ D8) (f5 : L + 1 ≠ D8)
theorem lawNews2 {h₀ h : Heap} {L rR D8 DP : Addr} {oR oD oP oK oL : Obj} {flR fl base : Led} (N : News h₀ L h ((rR, oR) :: (flR ++ ((D8, oD) :: (fl ++ base))))) (hb : base = [(DP, oP), (L + 1 + 1, oK), (L + 1, oL), (37, tabObj #[]), (30, tabObj #[])])
    (h1 : ∀ q ∈ (D8, oD) :: (fl ++ base), q.1 ≠ rR) (h2 : ∀ q ∈ (D8, oD) :: (fl ++ base), ∀ o ∈ flR, q.1 ≠ o.1) (h3 : ∀ o ∈ flR, o.1 ≠ rR) (o8 : ∀ p ∈ fl ++ base, p.1 ≠ D8) (hf : ∀ p ∈ fl, ∀ q ∈ base, q.1 ≠ p.1) :
    LN2 h₀ h L rR D8 oR oD oK oL flR fl := by
  subst hb
  refine ⟨flR ++ fl, [(37, tabObj #[]), (30, tabObj #[])], ⟨#[], #[], [], rfl, .inl rfl, .inl rfl, (fun _ h => nomatch h), fun _ h => nomatch h⟩, newsSub N ?_, fun p hp => List.mem_append_left _ hp, fun p hp => List.mem_append_right _ hp, ?_, ?_, ?_, ?_, ?_, h1 _ (.head _), ?_, ?_, ?_, ?_⟩
  · intro p hp
    rcases List.mem_cons.mp hp with rfl | hp
    · exact .head _
    refine .tail _ ?_
    rcases List.mem_cons.mp hp with rfl | hp
    · exact List.mem_append_right _ (.head _)
    rcases List.mem_cons.mp hp with rfl | hp
    · exact List.mem_append_right _ (.tail _ (List.mem_append_right _ (.tail _ (.head _))))
    rcases List.mem_cons.mp hp with rfl | hp
    · exact List.mem_append_right _ (.tail _ (List.mem_append_right _ (.tail _ (.tail _ (.head _)))))
    rcases List.mem_append.mp hp with hp | hp
    · rcases List.mem_append.mp hp with hp | hp
      · exact List.mem_append_left _ hp
      · exact List.mem_append_right _ (.tail _ (List.mem_append_left _ hp))
    · exact List.mem_append_right _ (.tail _ (List.mem_append_right _ (.tail _ (.tail _ (.tail _ hp)))))
  · exact fun p hp => (List.mem_append.mp hp).elim (h3 p) fun hp => h1 p (.tail _ (List.mem_append_left _ hp))
  · exact fun p hp => (List.mem_append.mp hp).elim (fun hp => (h2 _ (.head _) p hp).symm) fun hp => o8 p (List.mem_append_left _ hp)
  · exact fun p hp => (List.mem_append.mp hp).elim (fun hp => (h2 _ (.tail _ (List.mem_append_right _ (.tail _ (.head _)))) p hp).symm) fun hp => (hf p hp _ (.tail _ (.head _))).symm
  · exact fun p hp => (List.mem_append.mp hp).elim (fun hp => (h2 _ (.tail _ (List.mem_append_right _ (.tail _ (.tail _ (.head _))))) p hp).symm) fun hp => (hf p hp _ (.tail _ (.tail _ (.head _)))).symm
  · exact fun p hp r hr => (List.mem_append.mp hp).elim (fun hp => h2 r (.tail _ (List.mem_append_right _ (.tail _ (.tail _ (.tail _ hr))))) p hp) fun hp => hf p hp r (.tail _ (.tail _ (.tail _ hr)))
  · exact h1 _ (.tail _ (List.mem_append_right _ (.tail _ (.head _))))
  · exact h1 _ (.tail _ (List.mem_append_right _ (.tail _ (.tail _ (.head _)))))
  · exact o8 _ (List.mem_append_right _ (.tail _ (.head _)))
  · exact o8 _ (List.mem_append_right _ (.tail _ (.tail _ (.head _))))
section
variable {prog : Program} {w : World} {A : Around} {E : Value → Shared → Prop} {s : Shared} {env : Env} {h₀ : Heap} {body : List Stmt} {Q : Flow → Shared → Prop}
/- a loop over an enumerated list -/
theorem enum_turns {elts : List Expr} {k : Nat} {pos : Pos} {l : Addr} {lo : Obj} {vs : List Value} {n : Nat} {m₀ : Str → Option Value} {news : Led}
    (hh : A.handled = none) (F : Fr h₀ env.locals s.heap m₀) (N : News h₀ env.locals s.heap news) (hm : (l, lo) ∈ news) (hc : lo.cls = .type "list") (hd : lo.data = .seq vs.toArray n)
    (J : Addr → (Str → Option Value) → Nat → (Str → Option Value) → Led → Prop) (start : ∀ I, (∀ p ∈ news, p.1 < I) → J I m₀ 0 m₀ news)
    (step : ∀ I, (∀ p ∈ news, p.1 < I) → ∀ i v m news, vs[i]? = some v → J I m₀ i m news → ∀ T t h tk, IsTup h T #[.int (i : Nat) t, v] → Fr h₀ env.locals h m → AllObj [(I + 1, "enumerate"), (I, "list_iterator")] (fun its => News h₀ env.locals h (its ++ news) →
      wpAny (model prog w) A (assign (.Tuple elts k pos) env (.ref T)) (fun _ s₂ => wpAny (model prog w) A (execs body env) (TurnP h₀ env.locals { s with heap := h, toks := tk } its (fun m' n' => (l, lo) ∈ n' ∧ J I m₀ (i + 1) m' n') Q) E s₂) E { s with heap := h, toks := tk }))
    (done : ∀ I m news, J I m₀ vs.length m news → ∀ h tk, Fr h₀ env.locals h m → News h₀ env.locals h news → Q .next { s with heap := h, toks := tk }) :
    wpAny (model prog w) A (call (.type "enumerate") [.ref l]) (fun xv s₁ => wpAny (model prog w) A (pyIter xv) (fun it s₂ => TurnsAt prog w A h₀ env (.Tuple elts k pos) body Q E it s₂) E s₁) E s := by
  refine ktu_enum hh F N hm hc hd rfl fun I hI => rest_ind (fun xs m nw => ∃ i, xs = enumItems i (vs.drop i) ∧ i ≤ vs.length ∧ J I m₀ i m nw) ?_ ?_ _ _ _ ⟨0, by simp, Nat.zero_le _, start I hI⟩
  · rintro a r m nw ⟨i, hx, hi, hJ⟩ v h tk hv F'
    have hlt : i < vs.length := by
      rcases Nat.lt_or_ge i vs.length with h' | h'
      · exact h'
      · rw [List.drop_of_length_le h'] at hx; cases hx
    rw [List.drop_eq_getElem_cons hlt] at hx
    simp only [enumItems] at hx
    injection hx with ha hr
    subst ha hr
    obtain ⟨T, t, rfl, hT⟩ := hv
    refine allObj_mono (fun its hi N => wpAny_mono (hi N) (fun _ s₂ h₂ => wpAny_mono h₂ (fun f s₃ p => ?_) fun _ _ e => e) fun _ _ e => e) (step I hI i _ m nw (List.getElem?_eq_getElem hlt) hJ T t h tk hT F')
    have up : ∀ s₃, UnrEndW h₀ env.locals { s with heap := h, toks := tk } its (fun m' n' => (l, lo) ∈ n' ∧ J I m₀ (i + 1) m' n') s₃ → UnrEndW h₀ env.locals { s with heap := h, toks := tk } its (fun m' n' => SubL [(l, lo)] n' ∧ ∃ j, enumItems (i + 1) (vs.drop (i + 1)) = enumItems j (vs.drop j) ∧ j ≤ vs.length ∧ J I m₀ j m' n') s₃ := by
      rintro s₃ ⟨h', tk', m', news', e, F', N', ho, hm', hJ'⟩
      exact ⟨h', tk', m', news', e, F', N', ho, ⟨hm', trivial⟩, i + 1, rfl, hlt, hJ'⟩
    cases f with
    | ret v => exact p
    | brk => exact p
    | next => exact up _ p
    | cont => exact up _ p
  · rintro m nw ⟨i, hx, hi, hJ⟩ h tk F' N'
    have e : i = vs.length := by
      rcases Nat.lt_or_ge i vs.length with h' | h'
      · rw [List.drop_eq_getElem_cons h'] at hx
        cases hx
      · lia
    subst e
    exact done I m nw hJ h tk F' N'
end
/- a row's names -/
inductive RowB (u : Led) (rows : List (Int × List Int)) (i : Nat) (m₂ : Str → Option Value) : Prop
  | mk (k : Int) (t : Tok) (b : Addr) (vs : List Value) (e : Nat) (qs : List Int) (h1 : rows[i]? = some (k, qs)) (h2 : (b, W.listOf vs.toArray e) ∈ u) (h3 : IntsAre vs qs) (h4 : m₂ (Str.ofString "lost") = some (.int k t)) (h5 : m₂ (Str.ofString "quoted") = some (.ref b))
theorem asg_row {prog : Program} {w : World} {A : Around} {env : Env} {scope : Scope} {cl : List (Str × Addr)} {C : Addr} {v : Value} {s : Shared} {m' : Str → Option Value} {Q : Unit → Shared → Prop} {E : Value → Shared → Prop} {u : Led} {rv : List Value} {rows : List (Int × List Int)} {i kk : Nat} {pa pb tp : Pos}
    (hh : A.handled = none) (hR : Rws u rv rows) (hu : ∀ p ∈ u, s.heap.get? p.1 = some p.2) (hkind : scope.kind = .function) (hx : scope.names.lookup (Str.ofString "lost") = some .local) (hy : scope.names.lookup (Str.ofString "quoted") = some .local) (hv : rv[i]? = some v) (hns : s.heap.Ns C m')
    (hQ : ∀ h' tk m₂, h'.Ns C m₂ → RowB u rows i m₂ → (∀ c o, c ≠ C → s.heap.get? c = some o → h'.get? c = some o) → Q () { s with heap := h', toks := tk }) :
    wpAny (model prog w) A (assign (.Tuple [.Name (Str.ofString "lost") pa, .Name (Str.ofString "quoted") pb] kk tp) (compEnvC scope cl C env) v) Q E s := by
  obtain ⟨a, b, t, vs, e, k, qs, e1, rfl, e3, e4, e5⟩ := hR.get hv
  refine kcp_assign (env := compEnvC scope cl C env) hh (x := .int k t) (y := .ref b) ?_ (lookup_relabel_local hx) (lookup_relabel_local hy) (by simp [compEnvC, relabel, hkind]) hns fun h' tk hn hk => ?_
  · exact ⟨_, hu _ e3, rfl, 0, rfl⟩
  · exact hQ h' tk _ hn ⟨k, t, b, vs, e, qs, e1, e4, e5, (if_neg (by decide)).trans (if_pos rfl), if_pos rfl⟩ hk
theorem Pls.out {u : Led} {rs : List Value} {xs : List Str} {ps : List (List Str)} (h : Pls u rs (xs :: ps)) : ∃ a vs e rs', rs = Value.ref a :: rs' ∧ (a, W.listOf vs.toArray e) ∈ u ∧ Txts vs xs ∧ Pls u rs' ps := by
  cases h with
  | cons hl ht r => exact ⟨_, _, _, _, rfl, hl, ht, r⟩
theorem rws_len {u : Led} {rv : List Value} {ps : List (List Str)} {cnt : Nat} (h : Rws u rv (rowsOf ps cnt (2 ^ cnt))) (h34 : cnt = 3 ∨ cnt = 4) : rv.length ≤ 16 ∧ (rv.toArray.size != ([] : List Value).toArray.size) = true := by
  have e : rv.length = 2 ^ cnt := by rw [h.length]; simp [rowsOf]
  rw [List.size_toArray, e]
  rcases h34 with rfl | rfl <;> exact ⟨by decide, by decide⟩
theorem map_take_snoc {α β : Type} (f : α → β) {l : List α} {i : Nat} {x : α} (h : l[i]? = some x) : (l.map f).take (i + 1) = (l.map f).take i ++ [f x] := by
  rw [List.take_add_one, List.getElem?_map, h]; rfl
theorem slice1 (v : Value) (r : List Value) : (slicePick (v :: r).toArray (some 1) none none).toList = r := by
  have e : slicePick (v :: r).toArray (some ((1 : Nat) : Int)) none none = ((v :: r).toArray.toList.drop 1).toArray := slicePick_from' _ 1
  rw [show (some (1 : Int)) = some ((1 : Nat) : Int) from rfl, e]
  rfl
theorem dis_sub {own own' t : Led} (h : Dis own t) (hs : ∀ p ∈ own', p ∈ own) : Dis own' t := fun q hq => h q (hs q hq)
section
variable {prog : Program} {w : World} {A : Around} {E : Value → Shared → Prop} {s : Shared} {a b : Addr} {vs us : List Value} {ns : List Int} {Q : Value → Shared → Prop}
theorem ints_carried : ∀ {vs : List Value} {ns : List Int}, IntsAre vs ns → CarriedAll vs (ns.map PyData.int)
  | _, _, .nil => .nil
  | _, _, .cons _ t r => .cons (.int _ t) (ints_carried r)
theorem shapedT (ns : List Int) : SeqAt.shaped (.tuple (ns.map PyData.int)) = true := by
  have h := shaped_ints ns
  simpa [SeqAt.shaped, PyData.canLay0, PyData.depth] using h
/- two tuples of the same ints are equal -/
theorem ne_tup (ha : IsTup s.heap a vs.toArray) (hb : IsTup s.heap b us.toArray) (hi : IntsAre vs ns) (hj : IntsAre us ns) (hu : A.units + 64 < cLine) (h : Q (.bool false) s) :
    wpAny (model prog w) A (compareOp .NotEq (.ref a) (.ref b)) Q E s :=
  ne_dataH_same (reads_newDataT ha (ints_carried hi)) (reads_newDataT hb (ints_carried hj)) (shapedT ns) (shapedT ns) hu (by simp only [SeqAt.noMix]; exact noMix_ints ns ns) (by simp only [PySem.Spec.same]; rw [same_ints, decide_eq_true rfl]; exact h)
theorem eq_intsT (ha : s.heap.IsList a vs.toArray) (hb : s.heap.IsList b us.toArray) (hi : IntsAre vs ns) (hj : IntsAre us ns) (hu : A.units + 64 < cLine) (h : Q (.bool true) s) :
    wpAny (model prog w) A (compareOp .Eq (.ref a) (.ref b)) Q E s := eq_intsK ha hi hb hj hu (by rw [decide_eq_true rfl]; exact h)
end
theorem cellNe {o : Obj} {v : Option Value} (h : o.data = .cell v) : ∀ vs, o.data ≠ .fields vs := fun vs e => by
  rw [h] at e; cases e
theorem ints_rep0 (t : Tok) : ∀ c : Nat, IntsAre (List.replicate c (Value.int 0 t)) (List.replicate c 0)
  | 0 => .nil
  | c + 1 => .cons 0 t (ints_rep0 t c)
section
variable {prog : Program} {w : World} {A : Around} {E : Value → Shared → Prop} {s : Shared} {h₀ : Heap} {L : Addr} {m : Str → Option Value} {Q : Value → Shared → Prop}
theorem addOne {D l : Addr} {c : Nat} {t0 t1 : Tok} {news : Led} (F : Fr h₀ L s.heap m) (N : News h₀ L s.heap ((l, W.listOf #[Value.int 1 t1] 0) :: (D, W.listOf (List.replicate ((c : Nat) : Int).toNat [Value.int 0 t0]).flatten.toArray 0) :: news)) (hc : c ≤ 2)
    (h : ∀ R h' vs, IntsAre vs (List.replicate c 0 ++ [1]) → Fr h₀ L h' m → News h₀ L h' ((R, W.listOf vs.toArray 0) :: (l, W.listOf #[Value.int 1 t1] 0) :: (D, W.listOf (List.replicate ((c : Nat) : Int).toNat [Value.int 0 t0]).flatten.toArray 0) :: news) → Q (.ref R) { s with heap := h' }) :
    wpAny (model prog w) A (binaryOp .Add (.ref D) (.ref l)) Q E s := by
  have e : (List.replicate ((c : Nat) : Int).toNat [Value.int 0 t0]).flatten = List.replicate c (Value.int 0 t0) := by
    rw [Int.toNat_natCast, List.flatten_replicate_singleton]
  refine kmk_add_lit F N (News.isList N (.tail _ (.head _))) (News.isList N (.head _)) rfl (fun R h' F' N' _ => h R h' _ ?_ F' N') ?_
  · show IntsAre ((List.replicate ((c : Nat) : Int).toNat [Value.int 0 t0]).flatten ++ [Value.int 1 t1]) _
    rw [e]
    exact (ints_rep0 t0 c).append (.cons 1 t1 .nil)
  · show ((List.replicate ((c : Nat) : Int).toNat [Value.int 0 t0]).flatten).length + 1 ≤ sizeLine
    rw [e, List.length_replicate, sizeLine_eq]
    lia
end

section
set_option maxRecDepth 100000
theorem fillAll : (PySem.Challenge.rw_pg0162_02 = PySem.Challenge.rw_pg0162_02) ∧ (Mine.hd.heap_39 = Mine.hd.heap_39) := by
  k_fill
  exact ⟨rfl, rfl⟩
local macro_rules | `(tactic| walk_at $s:str) => `(tactic| k_extra $s)
local macro_rules | `(tactic| k_ne) => `(tactic| walk_at "NE")
local macro_rules | `(tactic| k_mem) => `(tactic| walk_at "MEM")
local macro_rules | `(tactic| k_all) => `(tactic| walk_at "ALL")

set_option maxHeartbeats 8000000
def SpecD (w : World) (p : Program) (loose : List Str) (mean : ExcName → Option Value) (mg mb : Str → Option Value) (f : Addr) (need : Led) (d : Addr) (vs : List Value) (ds : List Int) (nn k : Nat) : Prop :=
  ∀ (dp un : Nat) (gd : Option (List Code)) (cn : Str) (cs : Scope) (a : Addr) (ccd : Value) (cl : List (Str × Addr)) (outer : List Env) (A₀ : Around) (base h₀ : Heap) (L : Addr) (m : Str → Option Value) (s : Shared) (Q E : Value → Shared → Prop) (news : Led) (i j : Int) (t1 t2 : Tok),
    Below A₀ base outer h₀ → Fr h₀ L s.heap m → (Mine.hd.heap_39 w.params).In h₀ → News h₀ L s.heap news → Top p loose mean mg mb h₀ → cs.kind = .function → h₀.IsList d vs.toArray → (∀ q ∈ need, q ∈ news) →
    0 ≤ i → i < j → j ≤ (ds.length : Int) → (j - i).toNat ≤ k → dp + k < 1000 → un + 8 * k < 9900 →
    (∀ tk h' tk', Fr h₀ L h' m → News h₀ L h' news → Q (.int (digVal nn (seg ds i.toNat j.toNat)) tk) { s with heap := h', toks := tk' }) →
    wpAny (model PySem.Challenge.pw_pg0162_02 w) (ktrTop dp un gd cn cs L a ccd cl outer) (call (.ref f) [.int i t1, .int j t2]) Q E s
theorem specD_use {w : World} {p : Program} {loose : List Str} {mean : ExcName → Option Value} {mg mb : Str → Option Value} {f : Addr} {need : Led} {d : Addr} {vs : List Value} {ds : List Int} {nn k : Nat}
    {dp un : Nat} {gd : Option (List Code)} {cn : Str} {cs : Scope} {a : Addr} {ccd : Value} {cl : List (Str × Addr)} {outer : List Env} {A₀ : Around} {base h₀ : Heap} {L : Addr} {m : Str → Option Value} {s : Shared} {Q E : Value → Shared → Prop} {news : Led} {i j : Int} {t1 t2 : Tok}
    (S : SpecD w p loose mean mg mb f need d vs ds nn k)
    (B : Below A₀ base outer h₀) (F : Fr h₀ L s.heap m) (X : (Mine.hd.heap_39 w.params).In h₀) (N : News h₀ L s.heap news) (T : Top p loose mean mg mb h₀) (hk : cs.kind = .function) (hd : h₀.IsList d vs.toArray) (hn : ∀ q ∈ need, q ∈ news)
    (h1 : 0 ≤ i) (h2 : i < j) (h3 : j ≤ (ds.length : Int)) (h4 : (j - i).toNat ≤ k) (h5 : dp + k < 1000) (h6 : un + 8 * k < 9900)
    (hret : ∀ tk h' tk', Fr h₀ L h' m → News h₀ L h' news → Q (.int (digVal nn (seg ds i.toNat j.toNat)) tk) { s with heap := h', toks := tk' }) :
    wpAny (model PySem.Challenge.pw_pg0162_02 w) (ktrTop dp un gd cn cs L a ccd cl outer) (call (.ref f) [.int i t1, .int j t2]) Q E s := S _ _ _ _ _ _ _ _ _ _ _ _ _ _ _ _ _ _ _ _ _ _ B F X N T hk hd hn h1 h2 h3 h4 h5 h6 hret
theorem specD_all {w : World} {p : Program} {loose : List Str} {mean : ExcName → Option Value} {mg mb : Str → Option Value} {f : Addr} {need : Led} {d : Addr} {vs : List Value} {ds : List Int} {nn : Nat}
    (step : ∀ k, SpecD w p loose mean mg mb f need d vs ds nn k → SpecD w p loose mean mg mb f need d vs ds nn (k + 1)) : ∀ k, SpecD w p loose mean mg mb f need d vs ds nn k
  | 0 => by
    intro dp un gd cn cs a ccd cl outer A₀ base h₀ L m s Q E news i j t1 t2 B F X N T hk hd hn h1 h2 h3 h4
    lia
  | k + 1 => step k (specD_all step k)
set_option pp.deepTerms.threshold 6 in
theorem spec_d2i {w : World} {mg mb : Str → Option Value} {p : Program} {loose : List Str} {mean : ExcName → Option Value}
  {dp un : Nat} {gd : Option (List Code)} {cn : Str} {cs : Scope} {a : Addr} {ccd : Value} {cl : List (Str × Addr)} {outer : List Env} {A₀ : Around} {base h₀ : Heap} {L : Addr} {m : Str → Option Value} {s : Shared} {Q E : Value → Shared → Prop}
  {news own t : Led} {d : Addr} {vs : List Value} {ds : List Int} {nn : Nat} {tn : Tok}
  (cx : Cx w p loose mean mg mb A₀ base outer h₀ s.heap L m cs) (N : News h₀ L s.heap news) (htb : TB t) (hap : App news own t) (hown : Dis own t)
  (hd : s.heap.IsList d vs.toArray) (hi : IntsAre vs ds) (hn : nn ≤ 64) (hlen : ds.length ≤ 64) (hds : ∀ x ∈ ds, 0 ≤ x ∧ x < 2 ^ nn)
  (hdp : dp + 80 < recursionLimit) (hun : un + 800 < cLine)
  (hret : ∀ tk t' h' tk', TB t' → Fr h₀ L h' m → News h₀ L h' (own ++ t') → Dis own t' → Q (.int (digVal nn ds) tk) { s with heap := h', toks := tk' }) :
  wpAny (model PySem.Challenge.pw_pg0162_02 w) (ktrTop dp un gd cn cs L a ccd cl outer) (call (.ref 42) [.ref d, .int (nn : Int) tn]) Q E s := by
  k_with_none
  k_with "CJ" => (first | exact cj0 (by with_reducible assumption) | exact cj1 (by with_reducible assumption) | exact cj2 (by with_reducible assumption) | exact cj2z (by with_reducible assumption) | exact cj3 (by with_reducible assumption) | exact cj3z (by with_reducible assumption) | exact cj4 (by with_reducible assumption) | exact cj4z (by with_reducible assumption) | exact cj5 (by with_reducible assumption) | exact cj5z (by with_reducible assumption) | exact cj6 (by with_reducible assumption) | exact cj6z (by with_reducible assumption) | exact cj7 (by with_reducible assumption) | exact cj7z (by with_reducible assumption))
  k_with "NE" => ((refine neN ?_; (try dsimp only); first | walk_at "CJ" | exact Ne.symm (by walk_at "CJ") | exact Nat.ne_of_lt (by walk_at "CJ") | exact Nat.ne_of_gt (by walk_at "CJ") | exact neP (by walk_at "CJ") | exact Ne.symm (neP (by walk_at "CJ")) | exact neQ (by decide) | exact neR (by decide) | exact Ne.symm (neR (by decide)) | lia))
  k_with "MEM" => (k_dflt assumption)
  k_with "ALL" => ((refine' TB.off (by assumption) (by k_asm) (by k_mem) (by first | (((intro _ zh9; (repeat (first | exact zh9 | exact List.mem_append_right _ zh9 | refine' List.Mem.tail _ ?_)))); done) | fail) (by first | ((first | (intro _ zh9; cases zh9; done) | (intro _ zh9; simp_all)); done) | fail)))
  k_with "ALL" => (first | assumption | exact ofAllLt (by assumption) | exact ofAllLt (allLt_left (by assumption)) | (refine' forallApp ?_ ?_ <;> k_all))
  k_with "ROOM" => (first | lia | ((try simp only [depth_under_make, depth_under_kw, depth_in1, depth_deeper, depth_caller, recursionLimit, units_in1, units_deeper, Around.mark_units, units_caller, cLine] at *); (try dsimp only [ktrTop] at *); lia))
  k_with "TAILIN" => ((intro _ zh9; (try simp only [List.nil_append] at zh9); (repeat (first | exact zh9 | refine' List.Mem.tail _ ?_))))
  k_with "SUBL" => (((try simp only [List.cons_append, List.nil_append]); (repeat (refine List.forall_mem_cons.mpr ⟨by k_mem, ?_⟩)); first | exact List.forall_mem_nil _ | walk_at "TAILIN"))
  k_with "CX" => (exact ⟨by k_asm, by k_asm, by k_asm, by k_asm, by first | exact rfl | assumption, by assumption, by assumption⟩)
  k_with "APP" => ((repeat (first | exact App.nil | exact App.gen _ _ | apply App.cons)))
  k_with "DIS" => ((repeat (first | exact Dis.nil | assumption | (refine' Dis.cons ?_ ?_; focus (first | assumption | k_all)))))
  k_with "LEN" => (first | lia | ((try simp only [List.length_reverse, List.length_append, List.length_map, List.length_cons, List.length_nil, digs_length]); lia))
  k_with "call builtin:list.append" => ((k_here; k_dflt ((try dsimp only); refine' append_K (by k_asm) (by k_asm) (by k_upd) ?_ (by first | ((first | size_fits | (rw [sizeLine_eq]; simp only [List.size_toArray]; lia)); done) | fail)); intro _ _ zN9; (try simp only [List.push_toArray] at zN9); (try k_sweep)))
  k_with "OFF1" => ((repeat (first | exact List.forall_mem_nil _ | (refine' List.forall_mem_cons.mpr ⟨?_, ?_⟩; focus k_ne) | assumption | exact ofAllLt (by assumption) | k_all)))
  k_with "OFF" => ((refine' offSwap ?_; (repeat (first | exact List.forall_mem_nil _ | (refine' List.forall_mem_cons.mpr ⟨?_, ?_⟩; focus walk_at "OFF1")))))
  k_with "call builtin:list.reverse" => ((k_here; k_dflt ((try dsimp only); refine' kl_reverseU (by k_asm) (by k_asm) (by k_upd) (by exact rev_arr _) (by exact szl (by assumption)) ?_); intro _ _ _; (try k_sweep)))
  k_with "call type:list" => ((k_here; k_dflt (refine' list_revK (by exact rfl) (by k_asm) (by k_asm) (by first | ((first | k_all | fail); done) | fail) (by is_list) (by l_ints) (by first | ((walk_at "LEN"); done) | fail) ?_; intro _ _ _ _ _ _ _ _ _; (try k_sweep))))
  k_with "call builtin:len" => ((k_here; k_dflt (refine' len_ints (by is_list) (by l_ints) (by first | ((first | exact digs_length _ _ _ | exact rfl); done) | fail) (by lia) ?_; (try dsimp only))))
  k_with "SUMLEN" => (((try simp only [digs_length, List.length_append, List.length_reverse, List.length_map]); (simp only [sizeLine_eq]); first | lia | (rename_i e2' e3'; simp_all; lia)))
  k_with "binaryOp Add ref ref" => ((k_here; (with_reducible show wpAny _ _ (binaryOp _ (Value.ref _) (Value.ref _)) _ _ _); k_dflt ((try dsimp only); refine' kmk_add_ints (by k_asm) (by k_asm) (by kmk_list) (by kmk_list) (by l_ints) (by l_ints) ?_ (by first | ((first | walk_at "SUMLEN" | fail); done) | fail)); intro _ _ _ _ _ zl1 _; (try k_lt zl1); (try k_sweep)))
  k_with "TAILIN1" => ((repeat (first | assumption | refine' List.Mem.tail _ ?_)))
  k_with "MEMU" => ((repeat (first | exact List.mem_append_left _ (by assumption) | refine' List.Mem.tail _ ?_)))
  k_with "ALLIN" => ((repeat (first | exact List.forall_mem_nil _ | refine List.forall_mem_cons.mpr ⟨by k_mem, ?_⟩)))
  k_with "call ref" => ((k_here; k_dflt (refine' specD_use (by assumption) (by k_asm) (by k_asm) (by k_asm) (by k_asm) (by k_asm) (by first | ((first | exact rfl | assumption); done) | fail) (by assumption) (by first | ((walk_at "ALLIN"); done) | fail) (by first | ((walk_at "ROOM"); done) | fail) (by first | ((walk_at "ROOM"); done) | fail) (by first | ((walk_at "ROOM"); done) | fail) (by first | ((walk_at "ROOM"); done) | fail) (by first | ((walk_at "ROOM"); done) | fail) (by first | ((walk_at "ROOM"); done) | fail) ?_; intro _ _ _ _ _; (try dsimp only); (try k_fold))))
  k_with "binaryOp LShift int int" => ((k_here; (with_reducible refine lshift_int (by exact (mul_small (by lia) (by lia) (by lia) (by lia)).1) (by exact seg_bits (by assumption) (by assumption) (by assumption) (mul_small (by lia) (by lia) (by lia) (by lia)).2) ?_)))
  w_on
  w_top on
  obtain ⟨B, F, X, T, hk, CA, CB⟩ := cx
  have hdp' : dp + 80 < 1000 := hdp
  have hun' : un + 800 < 9900 := hun
  have e9 := hap.eq
  subst e9
  have hgb : GotBack TB h₀ L m own s (fun v new => ∃ tk, v = .int (digVal nn ds) tk ∧ new = []) Q := by
    rintro _ _ t' h' tk' htb' ⟨tk, rfl, rfl⟩ F' N' dn dt
    exact hret tk t' h' tk' htb' F' N' dt
  clear hret
  first | k_dflt ((
        refine' enterC ?k1 ?k2 ?k3 ?k4 ?k5 ?k6 ?kA ?kF ?kK ?k7 ?kd ?k8 ?k9 ?kb ?kB ?kD ?kr ?_ ?c2 ?c3 ?c4
        (case kr => assumption); (case kA => exact rfl); (case kF => exact rfl); (case kK => assumption)
        (case k1 => k_asm); (case k2 => k_asm); (case k3 => k_asm); (case k4 => k_asm); (case k5 => k_asm); (case k6 => assumption)
        (case k7 => k_is); (case kd => exact rfl); (case k8 => k_is); (case k9 => walk_at "ROOM"); (case kb => exact BindsTo.of_eq rfl); (case kB => exact rfl); (case kD => decide +kernel); (case c2 => exact rfl); (case c3 => exact rfl); (case c4 => exact rfl))) | fail
  intro g' L' h' tk' cells' hkg F' N' Y' B' X' T' l1
  refine holdQ ?_
  intro QR hQR
  have hd' := listIn htb (newsSub N fun q hq => List.mem_append_right _ hq) hkg hd
  have hPA : @LT.lt Nat _ 37 L' := by obtain ⟨_, _, _, rfl, _⟩ := htb; exact l1 _ (.head _)
  clear hkg
  k_cells Y'
  simp only [List.cons_append, List.nil_append] at N'
  clear hgb N F B X T hd hown hap
  (try dsimp only)
  refine wpAny_execs_cons ?_
  k_dflt refine' nestDef_K ?d0 ?k0 ?a0 ?_
  case d0 => exact rfl
  case k0 => exact rfl
  case a0 => exact rfl
  k_dflt refine' nestA (pre := [_, _, _]) (t := t) F' N' htb ?hp T' ?C ?cd ?hl ?hc ?hq ?cl ?_
  case hp => first | k_all | fail
  case C => exact CA.keeps B'.stays
  case cd => exact rfl
  case hl => exact rfl
  case hc => exact rfl
  case hq => exact rfl
  case cl => exact rfl
  intro f' c' oc vs' tt ct' doc' h'' tk'' t' htb' F'' N'' hmc hdc hvc l2
  simp only [List.cons_append, List.nil_append] at N'' l2
  k_lt l2
  clear F' N' htb
  (try dsimp only)
  (try k_fold)
  k_steps
  · k_dflt refine' specD_use (need := [(f', _), (c', oc), (L' + 1 + 1 + 1, _), (L' + 1 + 1, _), (L' + 1, _)]) (k := ds.length) (nn := nn) (ds := ds) (d := d) (vs := vs) ?S ?B ?F ?X ?N ?T ?hk ?hd ?hn ?h1 ?h2 ?h3 ?h4 ?h5 ?h6 ?_
    case B => k_asm
    case F => k_asm
    case X => k_asm
    case N => k_asm
    case T => k_asm
    case hk => exact rfl
    case hd => assumption
    case hn => first | walk_at "ALLIN" | fail
    case h1 => walk_at "ROOM"
    case h2 => walk_at "ROOM"
    case h3 => walk_at "ROOM"
    case h4 => walk_at "ROOM"
    case h5 => walk_at "ROOM"
    case h6 => walk_at "ROOM"
    case S =>
      refine specD_all (fun k IH => ?_) _
      unfold SpecD
      intro dp un gd cn cs a ccd cl outer A₀ base h₀ L m s Q E news i j t1 t2 B F X N T hk hd hn h1 h2 h3 h4 h5 h6 hret
      have hm1 := hn _ (.head _)
      have hm2 := hn _ (.tail _ (.head _))
      have hm3 := hn _ (.tail _ (.tail _ (.head _)))
      have hm4 := hn _ (.tail _ (.tail _ (.tail _ (.head _))))
      have hm5 := hn _ (.tail _ (.tail _ (.tail _ (.tail _ (.head _)))))
      refine wpAny_call ?_
      first | k_dflt ((
            refine' code_nest ?k1 ?k2 ?k3 ?k4 ?k5 ?kA ?kF ?kK ?k6 ?k7 ?k8 ?k9 ?kB ?_ ?c2 ?c3 ?c4 ?c5
            (case kA => exact rfl); (case kF => exact rfl); (case kK => assumption); (case k1 => k_asm); (case k2 => k_asm); (case k3 => k_asm); (case k4 => k_asm); (case k5 => k_asm); (case k6 => k_mem); (case k7 => exact codeRec_news (by k_asm) (by k_mem) (by assumption) (by assumption))
            (case k8 => walk_at "ROOM"); (case k9 => exact BindsTo.of_eq rfl); (case c5 => decide); (case kB => exact locs rfl); (case c2 => exact rfl); (case c3 => exact rfl); (case c4 => exact rfl))) | fail
      intro g1 L1 h1' FG1 F1 N1 B1 X1 T1
      have hd1 := stays_list FG1.keep hd
      have hmid := mid_facts i j
      (try dsimp only)
      (try k_fold)
      clear hd
      k_steps
      all_goals first
        | exact cb_retI hret (seg_single (nn := nn) h1 (by lia) h3) (by k_asm) (by k_asm)
        | exact cb_retI hret (seg_join h1 (by lia) (by lia) h3) (by k_asm) (by k_asm)
    intro tk9 h9 tk9' F9 N9
    have e8 : digVal nn (seg ds (0 : Int).toNat ((ds.length : Int)).toNat) = digVal nn ds := by simp [seg]
    rw [e8]
    exact hQR _ _ <| Ret.intro [] htb' F9 N9 (by walk_at "TAILIN") ⟨_, rfl, rfl⟩
  · have e8 : digVal nn ds = 0 := by
      have : ds = [] := List.length_eq_zero_iff.mp (by lia)
      rw [this]; rfl
    exact hQR _ _ <| Ret.intro [] htb' (by k_asm) (by k_asm) (by walk_at "TAILIN") ⟨_, by rw [e8], rfl⟩

set_option maxHeartbeats 8000000
def SpecI (w : World) (p : Program) (loose : List Str) (mean : ExcName → Option Value) (mg mb : Str → Option Value) (f : Addr) (need : Led) (ad : Addr) (ep nn len k : Nat) : Prop :=
  ∀ (dp un : Nat) (gd : Option (List Code)) (cn : Str) (cs : Scope) (a : Addr) (ccd : Value) (cl : List (Str × Addr)) (outer : List Env) (A₀ : Around) (base h₀ : Heap) (L : Addr) (m : Str → Option Value) (s : Shared) (Q E : Value → Shared → Prop) (news : Led) (x i j : Int) (t0 t1 t2 : Tok) (vs : List Value) (ds : List Int),
    Below A₀ base outer h₀ → Fr h₀ L s.heap m → (Mine.hd.heap_39 w.params).In h₀ → News h₀ L s.heap ((ad, W.listOf vs.toArray ep) :: news) → Top p loose mean mg mb h₀ → cs.kind = .function → (∀ q ∈ need, q ∈ news) → (∀ q ∈ news, q.1 ≠ ad) →
    IntsAre vs ds → ds.length = len → len ≤ 64 → 0 ≤ i → i < j → j ≤ (len : Int) → (j - i).toNat ≤ k → 0 ≤ x → x < 2 ^ (nn * (j - i).toNat) → dp + k < 1000 → un + 8 * k < 9900 →
    (∀ h' tk' vs', IntsAre vs' (putSeg ds i.toNat (digs nn (j - i).toNat x)) → Fr h₀ L h' m → News h₀ L h' ((ad, W.listOf vs'.toArray ep) :: news) → Q .none { s with heap := h', toks := tk' }) →
    wpAny (model PySem.Challenge.pw_pg0162_02 w) (ktrTop dp un gd cn cs L a ccd cl outer) (call (.ref f) [.int x t0, .int i t1, .int j t2]) Q E s
theorem specI_use {w : World} {p : Program} {loose : List Str} {mean : ExcName → Option Value} {mg mb : Str → Option Value} {f : Addr} {need : Led} {ad : Addr} {ep nn len k : Nat}
    {dp un : Nat} {gd : Option (List Code)} {cn : Str} {cs : Scope} {a : Addr} {ccd : Value} {cl : List (Str × Addr)} {outer : List Env} {A₀ : Around} {base h₀ : Heap} {L : Addr} {m : Str → Option Value} {s : Shared} {Q E : Value → Shared → Prop} {news news' : Led} {x i j : Int} {t0 t1 t2 : Tok} {vs : List Value} {ds : List Int}
    (S : SpecI w p loose mean mg mb f need ad ep nn len k)
    (B : Below A₀ base outer h₀) (F : Fr h₀ L s.heap m) (X : (Mine.hd.heap_39 w.params).In h₀) (N : News h₀ L s.heap news') (hs : ∀ q ∈ (ad, W.listOf vs.toArray ep) :: news, q ∈ news') (T : Top p loose mean mg mb h₀) (hk : cs.kind = .function) (hn : ∀ q ∈ need, q ∈ news) (ho : ∀ q ∈ news, q.1 ≠ ad)
    (hi : IntsAre vs ds) (hl : ds.length = len) (hl2 : len ≤ 64) (h1 : 0 ≤ i) (h2 : i < j) (h3 : j ≤ (len : Int)) (h4 : (j - i).toNat ≤ k) (hx : 0 ≤ x) (hx1 : x < 2 ^ (nn * (j - i).toNat)) (h5 : dp + k < 1000) (h6 : un + 8 * k < 9900)
    (hret : ∀ h' tk' vs', IntsAre vs' (putSeg ds i.toNat (digs nn (j - i).toNat x)) → (putSeg ds i.toNat (digs nn (j - i).toNat x)).length = len → Fr h₀ L h' m → News h₀ L h' ((ad, W.listOf vs'.toArray ep) :: news) → Q .none { s with heap := h', toks := tk' }) :
    wpAny (model PySem.Challenge.pw_pg0162_02 w) (ktrTop dp un gd cn cs L a ccd cl outer) (call (.ref f) [.int x t0, .int i t1, .int j t2]) Q E s :=
  S _ _ _ _ _ _ _ _ _ _ _ _ _ _ _ _ _ _ _ _ _ _ _ _ _ _ B F X (newsSub N hs) T hk hn ho hi hl hl2 h1 h2 h3 h4 hx hx1 h5 h6 fun h' tk' vs' hi' F' N' => hret h' tk' vs' hi' (by rw [putSeg_length (by rw [digs_length]; lia)]; exact hl) F' N'
theorem specI_all {w : World} {p : Program} {loose : List Str} {mean : ExcName → Option Value} {mg mb : Str → Option Value} {f : Addr} {need : Led} {ad : Addr} {ep nn len : Nat}
    (step : ∀ k, SpecI w p loose mean mg mb f need ad ep nn len k → SpecI w p loose mean mg mb f need ad ep nn len (k + 1)) : ∀ k, SpecI w p loose mean mg mb f need ad ep nn len k
  | 0 => by
    intro dp un gd cn cs a ccd cl outer A₀ base h₀ L m s Q E news x i j t0 t1 t2 vs ds B F X N T hk hn ho hi hl hl2 h1 h2 h3 h4
    lia
  | k + 1 => step k (specI_all step k)
set_option pp.deepTerms.threshold 4 in
theorem spec_i2d {w : World} {mg mb : Str → Option Value} {p : Program} {loose : List Str} {mean : ExcName → Option Value}
  {dp un : Nat} {gd : Option (List Code)} {cn : Str} {cs : Scope} {a : Addr} {ccd : Value} {cl : List (Str × Addr)} {outer : List Env} {A₀ : Around} {base h₀ : Heap} {L : Addr} {m : Str → Option Value} {s : Shared} {Q E : Value → Shared → Prop}
  {news own t : Led} {x : Int} {nn : Nat} {tx tn : Tok}
  (cx : Cx w p loose mean mg mb A₀ base outer h₀ s.heap L m cs) (N : News h₀ L s.heap news) (htb : TB t) (hap : App news own t) (hown : Dis own t)
  (hn1 : 1 ≤ nn) (hn : nn ≤ 64) (hx : 0 ≤ x) (k : Nat) (hkk : ((Builtin.Int.intBits x : Int) + (nn : Int) - 1).fdiv (nn : Int) = (k : Int)) (hk64 : k ≤ 64) (hxk : x < 2 ^ (nn * k))
  (hdp : dp + 80 < recursionLimit) (hun : un + 800 < cLine)
  (hret : ∀ r vs ep t' h' tk', IntsAre vs (digs nn k x) → TB t' → Fr h₀ L h' m → News h₀ L h' ((r, W.listOf vs.toArray ep) :: (own ++ t')) → (∀ q ∈ own, q.1 ≠ r) → Dis own t' → Q (.ref r) { s with heap := h', toks := tk' }) :
  wpAny (model PySem.Challenge.pw_pg0162_02 w) (ktrTop dp un gd cn cs L a ccd cl outer) (call (.ref 35) [.int x tx, .int (nn : Int) tn]) Q E s := by
  k_with_none
  k_with "CJ" => (first | exact cj0 (by with_reducible assumption) | exact cj1 (by with_reducible assumption) | exact cj2 (by with_reducible assumption) | exact cj2z (by with_reducible assumption) | exact cj3 (by with_reducible assumption) | exact cj3z (by with_reducible assumption) | exact cj4 (by with_reducible assumption) | exact cj4z (by with_reducible assumption) | exact cj5 (by with_reducible assumption) | exact cj5z (by with_reducible assumption) | exact cj6 (by with_reducible assumption) | exact cj6z (by with_reducible assumption) | exact cj7 (by with_reducible assumption) | exact cj7z (by with_reducible assumption))
  k_with "NE" => ((refine neN ?_; (try dsimp only); first | walk_at "CJ" | exact Ne.symm (by walk_at "CJ") | exact Nat.ne_of_lt (by walk_at "CJ") | exact Nat.ne_of_gt (by walk_at "CJ") | exact neP (by walk_at "CJ") | exact Ne.symm (neP (by walk_at "CJ")) | exact neQ (by decide) | exact neR (by decide) | exact Ne.symm (neR (by decide)) | lia))
  k_with "MEM" => (k_dflt assumption)
  k_with "ALL" => ((refine' TB.off (by assumption) (by k_asm) (by k_mem) (by first | (((intro _ zh9; (repeat (first | exact zh9 | exact List.mem_append_right _ zh9 | refine' List.Mem.tail _ ?_)))); done) | fail) (by first | ((first | (intro _ zh9; cases zh9; done) | (intro _ zh9; simp_all)); done) | fail)))
  k_with "ALL" => (first | assumption | exact ofAllLt (by assumption) | exact ofAllLt (allLt_left (by assumption)) | (refine' forallApp ?_ ?_ <;> k_all))
  k_with "ROOM" => (first | lia | ((try simp only [depth_under_make, depth_under_kw, depth_in1, depth_deeper, depth_caller, recursionLimit, units_in1, units_deeper, Around.mark_units, units_caller, cLine] at *); (try dsimp only [ktrTop] at *); lia))
  k_with "TAILIN" => ((intro _ zh9; (try simp only [List.nil_append] at zh9); (repeat (first | exact zh9 | refine' List.Mem.tail _ ?_))))
  k_with "SUBL" => (((try simp only [List.cons_append, List.nil_append]); (repeat (refine List.forall_mem_cons.mpr ⟨by k_mem, ?_⟩)); first | exact List.forall_mem_nil _ | walk_at "TAILIN"))
  k_with "CX" => (exact ⟨by k_asm, by k_asm, by k_asm, by k_asm, by first | exact rfl | assumption, by assumption, by assumption⟩)
  k_with "APP" => ((repeat (first | exact App.nil | exact App.gen _ _ | apply App.cons)))
  k_with "DIS" => ((repeat (first | exact Dis.nil | assumption | (refine' Dis.cons ?_ ?_; focus (first | assumption | k_all)))))
  k_with "call ref" => ((k_here; k_dflt (refine' spec_d2i (by first | ((walk_at "CX"); done) | fail) (by k_asm) (by assumption) (by first | ((walk_at "APP"); done) | fail) (by first | ((walk_at "DIS"); done) | fail) (by is_list) (by l_ints) (by lia) (by first | ((walk_at "LEN"); done) | fail) (by assumption) (by first | ((walk_at "ROOM"); done) | fail) (by first | ((walk_at "ROOM"); done) | fail) ?_; intro _ _ _ _ _ _ zN9 _; (try simp only [List.cons_append, List.nil_append] at zN9); (try dsimp only); (try k_fold))))
  k_with "LEN" => (first | lia | ((try simp only [List.length_reverse, List.length_append, List.length_map, List.length_cons, List.length_nil, digs_length]); lia))
  k_with "call builtin:list.append" => ((k_here; k_dflt ((try dsimp only); refine' append_K (by k_asm) (by k_asm) (by k_upd) ?_ (by first | ((first | size_fits | (rw [sizeLine_eq]; simp only [List.size_toArray]; lia)); done) | fail)); intro _ _ zN9; (try simp only [List.push_toArray] at zN9); (try k_sweep)))
  k_with "OFF1" => ((repeat (first | exact List.forall_mem_nil _ | (refine' List.forall_mem_cons.mpr ⟨?_, ?_⟩; focus k_ne) | assumption | exact ofAllLt (by assumption) | k_all)))
  k_with "OFF" => ((refine' offSwap ?_; (repeat (first | exact List.forall_mem_nil _ | (refine' List.forall_mem_cons.mpr ⟨?_, ?_⟩; focus walk_at "OFF1")))))
  k_with "call builtin:list.reverse" => ((k_here; k_dflt ((try dsimp only); refine' kl_reverseU (by k_asm) (by k_asm) (by k_upd) (by exact rev_arr _) (by exact szl (by assumption)) ?_); intro _ _ _; (try k_sweep)))
  k_with "call type:list" => ((k_here; k_dflt (refine' list_revK (by exact rfl) (by k_asm) (by k_asm) (by first | ((first | k_all | fail); done) | fail) (by is_list) (by l_ints) (by first | ((walk_at "LEN"); done) | fail) ?_; intro _ _ _ _ _ _ _ _ _; (try k_sweep))))
  k_with "call builtin:len" => ((k_here; k_dflt (refine' len_ints (by is_list) (by l_ints) (by first | ((first | exact digs_length _ _ _ | exact rfl); done) | fail) (by lia) ?_; (try dsimp only))))
  k_with "SUMLEN" => (((try simp only [digs_length, List.length_append, List.length_reverse, List.length_map]); (simp only [sizeLine_eq]); first | lia | (rename_i e2' e3'; simp_all; lia)))
  k_with "binaryOp Add ref ref" => ((k_here; (with_reducible show wpAny _ _ (binaryOp _ (Value.ref _) (Value.ref _)) _ _ _); k_dflt ((try dsimp only); refine' kmk_add_ints (by k_asm) (by k_asm) (by kmk_list) (by kmk_list) (by l_ints) (by l_ints) ?_ (by first | ((first | walk_at "SUMLEN" | fail); done) | fail)); intro _ _ _ _ _ zl1 _; (try k_lt zl1); (try k_sweep)))
  k_with "TAILIN1" => ((repeat (first | assumption | refine' List.Mem.tail _ ?_)))
  k_with "MEMU" => ((repeat (first | exact List.mem_append_left _ (by assumption) | refine' List.Mem.tail _ ?_)))
  k_with "ALLIN" => ((repeat (first | exact List.forall_mem_nil _ | refine List.forall_mem_cons.mpr ⟨by k_mem, ?_⟩)))
  k_with "ALL" => (assumption)
  k_with "binaryOp LShift int int" => ((k_here; (with_reducible refine lshift_int (by lia) (by assumption) ?_)))
  k_with "call ref" => ((k_here; k_dflt (refine' specI_use (by assumption) (by k_asm) (by k_asm) (by k_asm) (by k_asm) (by first | (((intro _ zh9; exact zh9)); done) | fail) (by k_asm) (by first | ((first | exact rfl | assumption); done) | fail) (by assumption) (by assumption) (by with_reducible assumption) (by assumption) (by assumption) (by first | ((walk_at "ROOM"); done) | fail) (by first | ((walk_at "ROOM"); done) | fail) (by first | ((walk_at "ROOM"); done) | fail) (by first | ((walk_at "ROOM"); done) | fail) (by assumption) (by assumption) (by first | ((walk_at "ROOM"); done) | fail) (by first | ((walk_at "ROOM"); done) | fail) ?_; intro zh9 _ _ _ _ _ _; (try dsimp only); (try k_fold))))
  w_on
  w_top on
  obtain ⟨B, F, X, T, hk, CA, CB⟩ := cx
  have hdp' : dp + 80 < 1000 := hdp
  have hun' : un + 800 < 9900 := hun
  have e9 := hap.eq
  subst e9
  have hgb : GotBack TB h₀ L m own s (fun v new => ∃ r vs ep, IntsAre vs (digs nn k x) ∧ v = .ref r ∧ new = [(r, W.listOf vs.toArray ep)]) Q := by
    rintro _ _ t' h' tk' htb' ⟨r, vs, ep, hi, rfl, rfl⟩ F' N' dn dt
    exact hret r vs ep t' h' tk' hi htb' F' N' (fun q hq => dn q hq _ (.head _)) dt
  clear hret
  first | k_dflt ((
        refine' enterC ?k1 ?k2 ?k3 ?k4 ?k5 ?k6 ?kA ?kF ?kK ?k7 ?kd ?k8 ?k9 ?kb ?kB ?kD ?kr ?_ ?c2 ?c3 ?c4
        (case kr => assumption); (case kA => exact rfl); (case kF => exact rfl); (case kK => assumption)
        (case k1 => k_asm); (case k2 => k_asm); (case k3 => k_asm); (case k4 => k_asm); (case k5 => k_asm); (case k6 => assumption)
        (case k7 => k_is); (case kd => exact rfl); (case k8 => k_is); (case k9 => walk_at "ROOM"); (case kb => exact BindsTo.of_eq rfl); (case kB => exact rfl); (case kD => decide +kernel); (case c2 => exact rfl); (case c3 => exact rfl); (case c4 => exact rfl))) | fail
  intro g' L' h' tk' cells' hkg F' N' Y' B' X' T' l1
  refine holdQ ?_
  intro QR hQR
  have hPB : @LT.lt Nat _ 30 L' := by obtain ⟨_, _, _, rfl, _⟩ := htb; exact l1 _ (.tail _ (.head _))
  clear hkg
  k_cells Y'
  simp only [List.cons_append, List.nil_append] at N'
  clear hgb N F B X T hown hap
  (try dsimp only)
  (try k_fold)
  k_steps
  rename_i o1 o2 o3 d1 d2 d3 lz hz ll D hD i1 n1 s1 e1 e2 e3 lD h2 o4 F2 N2 d4
  have e5 : (List.replicate (((Builtin.Int.intBits x : Int) + (nn : Int) - 1).fdiv (nn : Int)).toNat [(0 : Int)]).flatten = List.replicate k 0 := by rw [hkk]; simp
  rw [e5] at i1
  rw [e5] at e1
  have e6 : n1 = k := by rw [← e1]; simp
  subst e6
  clear e1 e2 e3
  k_dflt refine' nestDef_K ?d0 ?k0 ?a0 ?_
  case d0 => exact rfl
  case k0 => exact rfl
  case a0 => exact rfl
  k_dflt refine' nestB (pre := [_, _, _, _, _]) (t := t) F2 N2 htb ?hp T' ?C ?cd ?hl ?hc ?hq ?cl ?_
  case hp => first | k_all | fail
  case C => exact CB.keeps B'.stays
  case cd => exact rfl
  case hl => exact rfl
  case hc => exact rfl
  case hq => exact rfl
  case cl => exact rfl
  intro f' c' oc vs' tt ct' doc' h'' tk'' t' htb' F'' N'' hmc hdc hvc l2
  simp only [List.cons_append, List.nil_append] at N'' l2
  k_lt l2
  clear F2 N2 htb
  (try dsimp only)
  (try k_fold)
  k_steps
  · have hk1 := few_digs hx hxk (by assumption)
    k_dflt refine' specI_use (need := [(f', _), (c', oc), (L' + 1 + 1 + 1, _), (L' + 1 + 1, _), (L' + 1, _)]) (news := [(f', _), (L' + 1 + 1 + 1, _), (L' + 1 + 1, _), (L' + 1, _)] ++ t') (k := n1) (len := n1) (nn := nn) (ad := D) (ep := 0) (ds := List.replicate n1 0) ?S ?B ?F ?X ?N ?hs ?T ?hk ?hn ?ho ?hi ?hl ?hl2 ?h1 ?h2 ?h3 ?h4 ?hx ?hx1 ?h5 ?h6 ?_
    case B => k_asm
    case F => k_asm
    case X => k_asm
    case N => k_asm
    case T => k_asm
    case hk => exact rfl
    case hi => exact i1
    case hs => first | ((try simp only [List.cons_append, List.nil_append]); walk_at "SUBL") | fail
    case hn => first | ((try simp only [List.cons_append, List.nil_append]); walk_at "ALLIN") | fail
    case ho => first | ((try simp only [List.cons_append, List.nil_append]); k_all) | fail
    case hl => exact List.length_replicate
    case hl2 => exact hk64
    case h1 => exact Int.le_refl _
    case h2 => lia
    case h3 => exact Int.le_refl _
    case h4 => lia
    case hx => exact hx
    case hx1 => simpa using hxk
    case h5 => walk_at "ROOM"
    case h6 => walk_at "ROOM"
    case S =>
      refine specI_all (fun k IH => ?_) _
      unfold SpecI
      intro dp un gd cn cs a ccd cl outer A₀ base h₀ L m s Q E news y i j u0 u1 u2 vs ds B F X N T hk hn9 ho hi hl hl2 h1 h2 h3 h4 hy hy1 h5 h6 hret
      have hm1 := hn9 _ (.head _)
      have hm2 := hn9 _ (.tail _ (.head _))
      have hm3 := hn9 _ (.tail _ (.tail _ (.head _)))
      have hm4 := hn9 _ (.tail _ (.tail _ (.tail _ (.head _))))
      have hm5 := hn9 _ (.tail _ (.tail _ (.tail _ (.tail _ (.head _)))))
      have st := stepI (x := y) hn h1 h2 (by lia) hy hy1
      refine wpAny_call ?_
      first | k_dflt ((
            refine' code_nest ?k1 ?k2 ?k3 ?k4 ?k5 ?kA ?kF ?kK ?k6 ?k7 ?k8 ?k9 ?kB ?_ ?c2 ?c3 ?c4 ?c5
            (case kA => exact rfl); (case kF => exact rfl); (case kK => assumption); (case k1 => k_asm); (case k2 => k_asm); (case k3 => k_asm); (case k4 => k_asm); (case k5 => k_asm); (case k6 => k_mem); (case k7 => exact codeRec_news (by k_asm) (by k_mem) (by assumption) (by assumption))
            (case k8 => walk_at "ROOM"); (case k9 => exact BindsTo.of_eq rfl); (case c5 => decide); (case kB => exact locs rfl); (case c2 => exact rfl); (case c3 => exact rfl); (case c4 => exact rfl))) | fail
      intro g1 L1 h1' FG1 F1 N1 B1 X1 T1
      have a1 := st.hX0
      have a2 := st.hX1
      have a3 := st.sh0
      have a4 := st.up0
      have a5 := st.up1
      have a6 := st.lo0
      have a7 := st.lo1
      have a8 := st.bits
      have hmid := mid_facts i j
      (try dsimp only)
      (try k_fold)
      k_steps
      · refine hret _ _ _ ?_ (by k_asm) (by k_asm)
        rw [← putSeg_single h1 (by lia) (by lia) hy hy1]
        assumption
      · refine hret _ _ _ ?_ (by k_asm) (by k_asm)
        rw [← putSeg_join st h1 h2 (by lia)]
        assumption
    intro h9 tk9 vs9 hi9 hl9 F9 N9
    simp only [List.cons_append, List.nil_append] at N9
    rw [putSeg_whole] at hi9
    (try dsimp only)
    k_steps
    exact hQR _ _ <| Ret.intro [(D, _)] htb' (by k_asm) (by k_asm) (by walk_at "SUBL") ⟨_, _, _, hi9, rfl, rfl⟩
  · have e7 : digs nn n1 x = List.replicate n1 0 := by rw [‹x = 0›, digs_zero]
    exact hQR _ _ <| Ret.intro [(D, _)] htb' (by k_asm) (by k_asm) (by walk_at "SUBL") ⟨_, _, _, e7 ▸ i1, rfl, rfl⟩

set_option maxHeartbeats 8000000
abbrev tupII (x : Int) (t1 : Tok) (y : Int) (t2 : Tok) : Obj := { cls := .type "tuple", data := .seq #[.int x t1, .int y t2] }
set_option pp.deepTerms.threshold 4 in
theorem spec_d2n {w : World} {mg mb : Str → Option Value} {p : Program} {loose : List Str} {mean : ExcName → Option Value}
  {dp un : Nat} {gd : Option (List Code)} {cn : Str} {cs : Scope} {a : Addr} {ccd : Value} {cl : List (Str × Addr)} {outer : List Env} {A₀ : Around} {base h₀ : Heap} {L : Addr} {m : Str → Option Value} {s : Shared} {Q E : Value → Shared → Prop}
  {news : Led} {x b n : Int} {t0 t1 t2 : Tok}
  (cx : Cx w p loose mean mg mb A₀ base outer h₀ s.heap L m cs) (N : News h₀ L s.heap news)
  (hb : 0 < b) (hb2 : b < 2 ^ 64) (hbits : (Builtin.Int.intBits x : Int) - n ≤ 4000)
  (hdp : dp + 4 < recursionLimit) (hun : un + 100 < cLine)
  (hret : ∀ r t1 t2 h' tk', Fr h₀ L h' m → News h₀ L h' ((r, tupII (x.fdiv b) t1 (x.fmod b) t2) :: news) → (∀ q ∈ news, q.1 ≠ r) → Q (.ref r) { s with heap := h', toks := tk' }) :
  wpAny (model PySem.Challenge.pw_pg0162_02 w) (ktrTop dp un gd cn cs L a ccd cl outer) (call (.ref 21) [.int x t0, .int b t1, .int n t2]) Q E s := by
  k_with_none
  k_with "CJ" => (first | exact cj0 (by with_reducible assumption) | exact cj1 (by with_reducible assumption) | exact cj2 (by with_reducible assumption) | exact cj2z (by with_reducible assumption) | exact cj3 (by with_reducible assumption) | exact cj3z (by with_reducible assumption) | exact cj4 (by with_reducible assumption) | exact cj4z (by with_reducible assumption) | exact cj5 (by with_reducible assumption) | exact cj5z (by with_reducible assumption) | exact cj6 (by with_reducible assumption) | exact cj6z (by with_reducible assumption) | exact cj7 (by with_reducible assumption) | exact cj7z (by with_reducible assumption))
  k_with "NE" => ((refine neN ?_; (try dsimp only); first | walk_at "CJ" | exact Ne.symm (by walk_at "CJ") | exact Nat.ne_of_lt (by walk_at "CJ") | exact Nat.ne_of_gt (by walk_at "CJ") | exact neP (by walk_at "CJ") | exact Ne.symm (neP (by walk_at "CJ")) | exact neQ (by decide) | exact neR (by decide) | exact Ne.symm (neR (by decide)) | lia))
  k_with "MEM" => (k_dflt assumption)
  k_with "ALL" => ((refine' TB.off (by assumption) (by k_asm) (by k_mem) (by first | (((intro _ zh9; (repeat (first | exact zh9 | exact List.mem_append_right _ zh9 | refine' List.Mem.tail _ ?_)))); done) | fail) (by first | ((first | (intro _ zh9; cases zh9; done) | (intro _ zh9; simp_all)); done) | fail)))
  k_with "ALL" => (first | assumption | exact ofAllLt (by assumption) | exact ofAllLt (allLt_left (by assumption)) | (refine' forallApp ?_ ?_ <;> k_all))
  k_with "ROOM" => (first | lia | ((try simp only [depth_under_make, depth_under_kw, depth_in1, depth_deeper, depth_caller, recursionLimit, units_in1, units_deeper, Around.mark_units, units_caller, cLine] at *); (try dsimp only [ktrTop] at *); lia))
  k_with "TAILIN" => ((intro _ zh9; (try simp only [List.nil_append] at zh9); (repeat (first | exact zh9 | refine' List.Mem.tail _ ?_))))
  k_with "SUBL" => (((try simp only [List.cons_append, List.nil_append]); (repeat (refine List.forall_mem_cons.mpr ⟨by k_mem, ?_⟩)); first | exact List.forall_mem_nil _ | walk_at "TAILIN"))
  k_with "CX" => (exact ⟨by k_asm, by k_asm, by k_asm, by k_asm, by first | exact rfl | assumption, by assumption, by assumption⟩)
  k_with "APP" => ((repeat (first | exact App.nil | exact App.gen _ _ | apply App.cons)))
  k_with "DIS" => ((repeat (first | exact Dis.nil | assumption | (refine' Dis.cons ?_ ?_; focus (first | assumption | k_all)))))
  k_with "call ref" => ((k_here; k_dflt (refine' spec_d2i (by first | ((walk_at "CX"); done) | fail) (by k_asm) (by assumption) (by first | ((walk_at "APP"); done) | fail) (by first | ((walk_at "DIS"); done) | fail) (by is_list) (by l_ints) (by lia) (by first | ((walk_at "LEN"); done) | fail) (by assumption) (by first | ((walk_at "ROOM"); done) | fail) (by first | ((walk_at "ROOM"); done) | fail) ?_; intro _ _ _ _ _ _ zN9 _; (try simp only [List.cons_append, List.nil_append] at zN9); (try dsimp only); (try k_fold))))
  k_with "call ref" => ((k_here; k_dflt (refine' spec_i2d (by first | ((walk_at "CX"); done) | fail) (by k_asm) (by assumption) (by first | ((walk_at "APP"); done) | fail) (by first | ((walk_at "DIS"); done) | fail) (by lia) (by lia) (by assumption) _ (by assumption) (by lia) (by assumption) (by first | ((walk_at "ROOM"); done) | fail) (by first | ((walk_at "ROOM"); done) | fail) ?_; intro _ _ _ _ _ _ _ _ _ zN9 zhf9 _; (try simp only [List.cons_append, List.nil_append] at zN9); (replace zhf9 := allNe_of zhf9; try simp only [AllNe, and_true] at zhf9); (try dsimp only); (try k_fold))))
  k_with "LEN" => (first | lia | ((try simp only [List.length_reverse, List.length_append, List.length_map, List.length_cons, List.length_nil, digs_length]); lia))
  k_with "call builtin:list.append" => ((k_here; k_dflt ((try dsimp only); refine' append_K (by k_asm) (by k_asm) (by k_upd) ?_ (by first | ((first | size_fits | (rw [sizeLine_eq]; simp only [List.size_toArray]; lia)); done) | fail)); intro _ _ zN9; (try simp only [List.push_toArray] at zN9); (try k_sweep)))
  k_with "OFF1" => ((repeat (first | exact List.forall_mem_nil _ | (refine' List.forall_mem_cons.mpr ⟨?_, ?_⟩; focus k_ne) | assumption | exact ofAllLt (by assumption) | k_all)))
  k_with "OFF" => ((refine' offSwap ?_; (repeat (first | exact List.forall_mem_nil _ | (refine' List.forall_mem_cons.mpr ⟨?_, ?_⟩; focus walk_at "OFF1")))))
  k_with "call builtin:list.reverse" => ((k_here; k_dflt ((try dsimp only); refine' kl_reverseU (by k_asm) (by k_asm) (by k_upd) (by exact rev_arr _) (by exact szl (by assumption)) ?_); intro _ _ _; (try k_sweep)))
  k_with "call type:list" => ((k_here; k_dflt (refine' list_revK (by exact rfl) (by k_asm) (by k_asm) (by first | ((first | k_all | fail); done) | fail) (by is_list) (by l_ints) (by first | ((walk_at "LEN"); done) | fail) ?_; intro _ _ _ _ _ _ _ _ _; (try k_sweep))))
  k_with "call builtin:len" => ((k_here; k_dflt (refine' len_ints (by is_list) (by l_ints) (by first | ((first | exact digs_length _ _ _ | exact rfl); done) | fail) (by lia) ?_; (try dsimp only))))
  k_with "SUMLEN" => (((try simp only [digs_length, List.length_append, List.length_reverse, List.length_map]); (simp only [sizeLine_eq]); first | lia | (rename_i e2' e3'; simp_all; lia)))
  k_with "binaryOp Add ref ref" => ((k_here; (with_reducible show wpAny _ _ (binaryOp _ (Value.ref _) (Value.ref _)) _ _ _); k_dflt ((try dsimp only); refine' kmk_add_ints (by k_asm) (by k_asm) (by kmk_list) (by kmk_list) (by l_ints) (by l_ints) ?_ (by first | ((first | walk_at "SUMLEN" | fail); done) | fail)); intro _ _ _ _ _ zl1 _; (try k_lt zl1); (try k_sweep)))
  k_with "TAILIN1" => ((repeat (first | assumption | refine' List.Mem.tail _ ?_)))
  k_with "MEMU" => ((repeat (first | exact List.mem_append_left _ (by assumption) | refine' List.Mem.tail _ ?_)))
  k_with "call builtin:divmod" => ((k_here; refine divmod_N (by k_asm) (by k_asm) (by lia) ?_ (Or.inl (noPy (by assumption) (by assumption))); intro _ _ _))
  w_on
  w_top on
  obtain ⟨B, F, X, T, hk, CA, CB⟩ := cx
  have hdp' : dp + 4 < 1000 := hdp
  have hun' : un + 100 < 9900 := hun
  have hgb : GotBack NoT h₀ L m news s (fun v new => ∃ r t1 t2, v = .ref r ∧ new = [(r, tupII (x.fdiv b) t1 (x.fmod b) t2)]) Q := by
    rintro _ _ t' h' tk' rfl ⟨r, t1, t2, rfl, rfl⟩ F' N' dn dt
    rw [List.append_nil] at N'
    exact hret r t1 t2 h' tk' F' N' fun q hq => dn q hq _ (.head _)
  clear hret
  have N0 : News h₀ L s.heap (news ++ []) := by rw [List.append_nil]; exact N
  have hown : Dis news [] := fun _ _ _ h => nomatch h
  first | k_dflt ((
        refine' enterP ?k1 ?k2 ?k3 ?k4 ?k5 ?k6 ?kA ?kF ?kK ?k7 ?kd ?k8 ?k9 ?kb ?kB ?kr ?_ ?kc ?c2 ?c3 ?c4
        (case kr => assumption); (case kA => exact rfl); (case kF => exact rfl); (case kK => assumption)
        (case k1 => k_asm); (case k2 => k_asm); (case k3 => k_asm); (case k4 => k_asm); (case k5 => k_asm); (case k6 => assumption)
        (case k7 => k_is); (case kd => exact rfl); (case k8 => k_is); (case k9 => walk_at "ROOM"); (case kb => exact BindsTo.of_eq rfl); (case kB => exact locs rfl); (case kc => decide); (case c2 => exact rfl); (case c3 => exact rfl); (case c4 => exact rfl))) | fail
  intro g' L' h' hkg F' N' B' X' T' l1
  refine holdQ ?_
  intro QR hQR
  clear hkg hgb N0 N F B X T hown l1
  (try dsimp only)
  (try k_fold)
  k_steps
  exact hQR _ _ <| Ret.intro (t' := []) [(_, _)] rfl (by k_asm) (by k_asm) (by walk_at "SUBL") ⟨_, _, _, rfl, rfl⟩

/- a turn of the division -/
inductive DposI (b x : Int) (k : Nat) (l A : Addr) (vsA : List Value) (epA : Nat) (tA : Led) (m₀ : Str → Option Value) (xs : List Itm) (m : Str → Option Value) (news : Led) : Prop
  | mk (lv : List Value) (ls : List Int) (V r : Int) (tr : Tok) (qv : List Value) (qs : List Int) (eq len : Nat) (h1 : xs = lv.map .val) (h2 : IntsAre lv ls) (h3 : ∀ d ∈ ls, 0 ≤ d ∧ d < 2 ^ Builtin.Int.intBits b) (h4 : DivInv (Builtin.Int.intBits b) b V r qs len) (h5 : IntsAre qv qs) (h6 : len + ls.length = k) (h7 : big (Builtin.Int.intBits b) V ls = x)
    (h8 : Held m₀ [Str.ofString "a_digit", Str.ofString "q_digit"] [(Str.ofString "r", .int r tr)] m) (h9 : news = (l, W.listOf qv.toArray eq) :: (A, W.listOf vsA.toArray epA) :: tA)
set_option maxHeartbeats 8000000
set_option pp.deepTerms.threshold 4 in
theorem spec_dpos {w : World} {mg mb : Str → Option Value} {p : Program} {loose : List Str} {mean : ExcName → Option Value}
  {dp un : Nat} {gd : Option (List Code)} {cn : Str} {cs : Scope} {a : Addr} {ccd : Value} {cl : List (Str × Addr)} {outer : List Env} {A₀ : Around} {base h₀ : Heap} {L : Addr} {m : Str → Option Value} {s : Shared} {Q E : Value → Shared → Prop}
  {news own t : Led} {x b : Int} {tx tb : Tok}
  (cx : Cx w p loose mean mg mb A₀ base outer h₀ s.heap L m cs) (N : News h₀ L s.heap news) (htb : TB t) (hap : App news own t) (hown : Dis own t)
  (hx : 0 ≤ x) (hb : 0 < b) (hb2 : b < 2 ^ 64) (hxb : Builtin.Int.intBits x ≤ 62 * Builtin.Int.intBits b)
  (hdp : dp + 84 < recursionLimit) (hun : un + 850 < cLine)
  (hret : ∀ r t1 t2 t' h' tk', TB t' → Fr h₀ L h' m → News h₀ L h' ((r, tupII (x.fdiv b) t1 (x.fmod b) t2) :: (own ++ t')) → (∀ q ∈ own, q.1 ≠ r) → Dis own t' → Q (.ref r) { s with heap := h', toks := tk' }) :
  wpAny (model PySem.Challenge.pw_pg0162_02 w) (ktrTop dp un gd cn cs L a ccd cl outer) (call (.ref 49) [.int x tx, .int b tb]) Q E s := by
  k_with_none
  k_with "CJ" => (first | exact cj0 (by with_reducible assumption) | exact cj1 (by with_reducible assumption) | exact cj2 (by with_reducible assumption) | exact cj2z (by with_reducible assumption) | exact cj3 (by with_reducible assumption) | exact cj3z (by with_reducible assumption) | exact cj4 (by with_reducible assumption) | exact cj4z (by with_reducible assumption) | exact cj5 (by with_reducible assumption) | exact cj5z (by with_reducible assumption) | exact cj6 (by with_reducible assumption) | exact cj6z (by with_reducible assumption) | exact cj7 (by with_reducible assumption) | exact cj7z (by with_reducible assumption))
  k_with "NE" => ((refine neN ?_; (try dsimp only); first | walk_at "CJ" | exact Ne.symm (by walk_at "CJ") | exact Nat.ne_of_lt (by walk_at "CJ") | exact Nat.ne_of_gt (by walk_at "CJ") | exact neP (by walk_at "CJ") | exact Ne.symm (neP (by walk_at "CJ")) | exact neQ (by decide) | exact neR (by decide) | exact Ne.symm (neR (by decide)) | lia))
  k_with "MEM" => (k_dflt assumption)
  k_with "ALL" => ((refine' TB.off (by assumption) (by k_asm) (by k_mem) (by first | (((intro _ zh9; (repeat (first | exact zh9 | exact List.mem_append_right _ zh9 | refine' List.Mem.tail _ ?_)))); done) | fail) (by first | ((first | (intro _ zh9; cases zh9; done) | (intro _ zh9; simp_all)); done) | fail)))
  k_with "ALL" => (first | assumption | exact ofAllLt (by assumption) | exact ofAllLt (allLt_left (by assumption)) | (refine' forallApp ?_ ?_ <;> k_all))
  k_with "ROOM" => (first | lia | ((try simp only [depth_under_make, depth_under_kw, depth_in1, depth_deeper, depth_caller, recursionLimit, units_in1, units_deeper, Around.mark_units, units_caller, cLine] at *); (try dsimp only [ktrTop] at *); lia))
  k_with "TAILIN" => ((intro _ zh9; (try simp only [List.nil_append] at zh9); (repeat (first | exact zh9 | refine' List.Mem.tail _ ?_))))
  k_with "SUBL" => (((try simp only [List.cons_append, List.nil_append]); (repeat (refine List.forall_mem_cons.mpr ⟨by k_mem, ?_⟩)); first | exact List.forall_mem_nil _ | walk_at "TAILIN"))
  k_with "CX" => (exact ⟨by k_asm, by k_asm, by k_asm, by k_asm, by first | exact rfl | assumption, by assumption, by assumption⟩)
  k_with "APP" => ((repeat (first | exact App.nil | exact App.gen _ _ | apply App.cons)))
  k_with "DIS" => ((repeat (first | exact Dis.nil | assumption | (refine' Dis.cons ?_ ?_; focus (first | assumption | k_all)))))
  k_with "call ref" => ((k_here; k_dflt (refine' spec_d2i (by first | ((walk_at "CX"); done) | fail) (by k_asm) (by assumption) (by first | ((walk_at "APP"); done) | fail) (by first | ((walk_at "DIS"); done) | fail) (by is_list) (by l_ints) (by lia) (by first | ((walk_at "LEN"); done) | fail) (by assumption) (by first | ((walk_at "ROOM"); done) | fail) (by first | ((walk_at "ROOM"); done) | fail) ?_; intro _ _ _ _ _ _ zN9 _; (try simp only [List.cons_append, List.nil_append] at zN9); (try dsimp only); (try k_fold))))
  k_with "call ref" => ((k_here; k_dflt (refine' spec_i2d (by first | ((walk_at "CX"); done) | fail) (by k_asm) (by assumption) (by first | ((walk_at "APP"); done) | fail) (by first | ((walk_at "DIS"); done) | fail) (by lia) (by lia) (by assumption) _ (by assumption) (by lia) (by assumption) (by first | ((walk_at "ROOM"); done) | fail) (by first | ((walk_at "ROOM"); done) | fail) ?_; intro _ _ _ _ _ _ _ _ _ zN9 zhf9 _; (try simp only [List.cons_append, List.nil_append] at zN9); (replace zhf9 := allNe_of zhf9; try simp only [AllNe, and_true] at zhf9); (try dsimp only); (try k_fold))))
  k_with "call ref" => ((k_here; k_dflt (refine' spec_d2n (by first | ((walk_at "CX"); done) | fail) (by k_asm) (by assumption) (by assumption) (by assumption) (by first | ((walk_at "ROOM"); done) | fail) (by first | ((walk_at "ROOM"); done) | fail) ?_; intro _ _ _ _ _ _ _ zhf9; (replace zhf9 := allNe_of zhf9; simp only [AllNe, and_true] at zhf9); (try dsimp only); (try k_fold))))
  k_with "LEN" => (first | lia | ((try simp only [List.length_reverse, List.length_append, List.length_map, List.length_cons, List.length_nil, digs_length]); lia))
  k_with "call builtin:list.append" => ((k_here; k_dflt ((try dsimp only); refine' append_K (by k_asm) (by k_asm) (by k_upd) ?_ (by first | ((first | size_fits | (rw [sizeLine_eq]; simp only [List.size_toArray]; lia)); done) | fail)); intro _ _ zN9; (try simp only [List.push_toArray] at zN9); (try k_sweep)))
  k_with "OFF1" => ((repeat (first | exact List.forall_mem_nil _ | (refine' List.forall_mem_cons.mpr ⟨?_, ?_⟩; focus k_ne) | assumption | exact ofAllLt (by assumption) | k_all)))
  k_with "OFF" => ((refine' offSwap ?_; (repeat (first | exact List.forall_mem_nil _ | (refine' List.forall_mem_cons.mpr ⟨?_, ?_⟩; focus walk_at "OFF1")))))
  k_with "call builtin:list.reverse" => ((k_here; k_dflt ((try dsimp only); refine' kl_reverseU (by k_asm) (by k_asm) (by k_upd) (by exact rev_arr _) (by exact szl (by assumption)) ?_); intro _ _ _; (try k_sweep)))
  k_with "call type:list" => ((k_here; k_dflt (refine' list_revK (by exact rfl) (by k_asm) (by k_asm) (by first | ((first | k_all | fail); done) | fail) (by is_list) (by l_ints) (by first | ((walk_at "LEN"); done) | fail) ?_; intro _ _ _ _ _ _ _ _ _; (try k_sweep))))
  k_with "call builtin:len" => ((k_here; k_dflt (refine' len_ints (by is_list) (by l_ints) (by first | ((first | exact digs_length _ _ _ | exact rfl); done) | fail) (by lia) ?_; (try dsimp only))))
  k_with "SUMLEN" => (((try simp only [digs_length, List.length_append, List.length_reverse, List.length_map]); (simp only [sizeLine_eq]); first | lia | (rename_i e2' e3'; simp_all; lia)))
  k_with "binaryOp Add ref ref" => ((k_here; (with_reducible show wpAny _ _ (binaryOp _ (Value.ref _) (Value.ref _)) _ _ _); k_dflt ((try dsimp only); refine' kmk_add_ints (by k_asm) (by k_asm) (by kmk_list) (by kmk_list) (by l_ints) (by l_ints) ?_ (by first | ((first | walk_at "SUMLEN" | fail); done) | fail)); intro _ _ _ _ _ zl1 _; (try k_lt zl1); (try k_sweep)))
  k_with "TAILIN1" => ((repeat (first | assumption | refine' List.Mem.tail _ ?_)))
  k_with "MEMU" => ((repeat (first | exact List.mem_append_left _ (by assumption) | refine' List.Mem.tail _ ?_)))
  k_with "exec For Name Call cons nil" => ((k_here; (with_unfolding_all refine' For_turns (by with_reducible assumption) ?_ (fun _ => rfl) PassesOwn.never)))
  k_with "binaryOp LShift int int" => ((k_here; (with_reducible refine lshift_int (by lia) (by exact small_bits (by assumption) (by assumption) (by lia)) ?_)))
  w_on
  w_top on
  obtain ⟨B, F, X, T, hk, CA, CB⟩ := cx
  have hdp' : dp + 84 < 1000 := hdp
  have hun' : un + 850 < 9900 := hun
  have e9 := hap.eq
  subst e9
  have hgb : GotBack TB h₀ L m own s (fun v new => ∃ r t1 t2, v = .ref r ∧ new = [(r, tupII (x.fdiv b) t1 (x.fmod b) t2)]) Q := by
    rintro _ _ t' h' tk' htb' ⟨r, t1, t2, rfl, rfl⟩ F' N' dn dt
    exact hret r t1 t2 t' h' tk' htb' F' N' (fun q hq => dn q hq _ (.head _)) dt
  clear hret
  first | k_dflt ((
        refine' enterP ?k1 ?k2 ?k3 ?k4 ?k5 ?k6 ?kA ?kF ?kK ?k7 ?kd ?k8 ?k9 ?kb ?kB ?kr ?_ ?kc ?c2 ?c3 ?c4
        (case kr => assumption); (case kA => exact rfl); (case kF => exact rfl); (case kK => assumption)
        (case k1 => k_asm); (case k2 => k_asm); (case k3 => k_asm); (case k4 => k_asm); (case k5 => k_asm); (case k6 => assumption)
        (case k7 => k_is); (case kd => exact rfl); (case k8 => k_is); (case k9 => walk_at "ROOM"); (case kb => exact BindsTo.of_eq rfl); (case kB => exact locs rfl); (case kc => decide); (case c2 => exact rfl); (case c3 => exact rfl); (case c4 => exact rfl))) | fail
  intro g' L' h' hkg F' N' B' X' T' l1
  refine holdQ ?_
  intro QR hQR
  clear hkg hgb N F B X T hown hap
  have hn1 := bits_pos hb
  have hn64 := bits_le (Int.le_of_lt hb) hb2
  obtain ⟨k, hk63, hkk, hxk⟩ := digs_count hx hn1 hxb
  (try dsimp only)
  (try k_fold)
  k_steps
  rename_i hz0 A vsA epA tA hA tkA hiA htA hdA hz1 hz2 l hz3 lt1 hz4 D hz5 F0 N0 lt2
  have hlA : vsA.length = k := by rw [hiA.length, digs_length]
  k_dflt refine' iter_revTurns (vs := vsA) ?hh ?F ?N ?hoff ?hm ?hc ?hd ?_
  case hh => exact rfl
  case F => k_asm
  case N => k_asm
  case hoff => first | k_all | fail
  case hm => first | k_mem | fail
  case hc => exact rfl
  case hd => exact rfl
  refine rest_indM (fun m₀ xs m news => DposI b x k l A vsA epA tA m₀ xs m news) ?step ?done ?start
  case start =>
    refine ⟨vsA.reverse, (digs (Builtin.Int.intBits b) k x).reverse, 0, 0, _, [], [], 0, 0, rfl, ?_, ?_, DivInv.start _ _, .nil, by rw [List.length_reverse, digs_length, Nat.zero_add], ?_, ⟨fun p hp => by rw [List.mem_singleton.mp hp]; rfl, fun _ _ _ => rfl⟩, rfl⟩
    · exact ints_rev hiA
    · intro d hd
      exact digs_range _ _ _ d (List.mem_reverse.mp hd)
    · rw [big_reverse, digVal_digs _ _ _ hx hxk]
  case step =>
    intro it0 rr m9 news9 hz0 v H tk hv F9
    refine hide ?_
    intro Z hZ
    obtain ⟨lv, ls, V, r, tr, qv, qs, eq, len, hxs, hlv, hls, hdi, hqv, hlen, hbig, hH, rfl⟩ := hz0
    cases hlv with
    | nil => simp at hxs
    | cons d td hlv =>
      simp only [List.map_cons, List.cons.injEq] at hxs
      obtain ⟨rfl, rfl⟩ := hxs
      have hv' : v = .int d td := hv
      subst hv'
      refine hZ ?_
      clear hZ Z
      have hd := hls d (.head _)
      have hc := hdi.cur hb hd
      have hcb := cur_bits hc.1 hc.2 hb rfl hn64
      have hr0 := (hdi.rbound hb).1
      have hr1 : r < 2 ^ 64 := Int.lt_trans (hdi.rbound hb).2 hb2
      have hql : qv.length ≤ 64 := by have h1 := hqv.length; have h2 := hdi.hl; lia
      have F9 := hH.fr F9
      refine AllObj.cons (w := (_, _)) fun it hit => AllObj.nil ?_
      intro N9
      simp only [List.cons_append, List.nil_append] at N9
      refine holdT ?_
      intro QT hQT
      (try dsimp only)
      (try k_fold)
      k_steps
      refine' hQT _ _ ?_
      refine' TurnP.next ?F ?N ((l, ?o1) :: (A, ?o2) :: tA) ?hs ?off ?r
      case F => k_asm
      case N => k_asm
      case hs => first | walk_at "SUBL" | fail
      case off => first | walk_at "OFF" | fail
      case r =>
        refine' ⟨⟨List.Mem.tail _ (.head _), trivial⟩, _, _, V * 2 ^ Builtin.Int.intBits b + d, _, ?tr, qv ++ [_], qs ++ [_], eq + 1, len + 1, rfl, hlv, fun y hy => hls y (.tail _ hy), hdi.step hb hd, hqv.append (.cons _ _ .nil), ?hl, ?hb, ⟨?h1, ?h2⟩, rfl⟩
        case h1 => exact fun p hp => by rw [List.mem_singleton.mp hp]; rfl
        case hl => rw [List.length_cons] at hlen; lia
        case hb => exact hbig
        case h2 =>
          intro z g1 g2
          have a1 := g1 _ (.head _)
          have a2 := notIn g2 _ (.head _)
          have a3 := notIn g2 _ (.tail _ (.head _))
          (repeat (first | with_reducible exact rfl | with_reducible refine stIf (by assumption) ?_ | with_reducible refine stCons (by assumption) ?_ | with_reducible refine stNil ?_ | with_reducible refine stCon (by assumption) ?_))
  case done =>
    intro m9 news9 hz0 H tk F9 N9
    refine hide ?_
    intro Z hZ
    obtain ⟨lv, ls, V, r, tr, qv, qs, eq, len, hxs, hlv, hls, hdi, hqv, hlen, hbig, hH, rfl⟩ := hz0
    have F9 := hH.fr F9
    cases hlv with
    | cons => simp at hxs
    | nil =>
      have hV : V = x := hbig
      subst hV
      refine hZ ?_
      clear hZ Z
      have hql : qv.length ≤ 64 := by have h1 := hqv.length; have h2 := hdi.hl; lia
      have hqr := hqv.reverse
      have hl2 := hdi.hl
      have hrg : ∀ y ∈ qs.reverse, 0 ≤ y ∧ y < 2 ^ Builtin.Int.intBits b := fun y hy => hdi.rng y (List.mem_reverse.mp hy)
      (try dsimp only)
      (try k_fold)
      k_steps
      have e1 : digVal (Builtin.Int.intBits b) qs.reverse = V.fdiv b := by rw [hdi.hq, Int.fdiv_eq_ediv_of_nonneg _ (Int.le_of_lt hb)]
      have e2 : r = V.fmod b := by rw [hdi.hr, Int.fmod_eq_emod_of_nonneg _ (Int.le_of_lt hb)]
      refine' hQR _ _ ?_
      refine' Ret.intro [(_, _)] ?htb ?F ?N ?hs ?w
      case F => k_asm
      case N => k_asm
      case htb => assumption
      case hs => first | walk_at "SUBL" | fail
      case w => exact ⟨_, _, _, rfl, by rw [← e1, ← e2] <;> rfl⟩

set_option maxHeartbeats 8000000
set_option pp.deepTerms.threshold 4 in
theorem spec_idm {w : World} {mg mb : Str → Option Value} {p : Program} {loose : List Str} {mean : ExcName → Option Value}
  {dp un : Nat} {gd : Option (List Code)} {cn : Str} {cs : Scope} {a : Addr} {ccd : Value} {cl : List (Str × Addr)} {outer : List Env} {A₀ : Around} {base h₀ : Heap} {L : Addr} {m : Str → Option Value} {s : Shared} {Q E : Value → Shared → Prop}
  {news own t : Led} {x b : Int} {tx tb : Tok}
  (cx : Cx w p loose mean mg mb A₀ base outer h₀ s.heap L m cs) (N : News h₀ L s.heap news) (htb : TB t) (hap : App news own t) (hown : Dis own t)
  (hx : 0 ≤ x) (hb : 0 < b) (hb2 : b < 2 ^ 64) (hxb : Builtin.Int.intBits x ≤ 62 * Builtin.Int.intBits b)
  (hdp : dp + 86 < recursionLimit) (hun : un + 870 < cLine)
  (hret : ∀ r t1 t2 t' h' tk', TB t' → Fr h₀ L h' m → News h₀ L h' ((r, tupII (x.fdiv b) t1 (x.fmod b) t2) :: (own ++ t')) → (∀ q ∈ own, q.1 ≠ r) → Dis own t' → Q (.ref r) { s with heap := h', toks := tk' }) :
  wpAny (model PySem.Challenge.pw_pg0162_02 w) (ktrTop dp un gd cn cs L a ccd cl outer) (call (.ref 56) [.int x tx, .int b tb]) Q E s := by
  k_with_none
  k_with "CJ" => (first | exact cj0 (by with_reducible assumption) | exact cj1 (by with_reducible assumption) | exact cj2 (by with_reducible assumption) | exact cj2z (by with_reducible assumption) | exact cj3 (by with_reducible assumption) | exact cj3z (by with_reducible assumption) | exact cj4 (by with_reducible assumption) | exact cj4z (by with_reducible assumption) | exact cj5 (by with_reducible assumption) | exact cj5z (by with_reducible assumption) | exact cj6 (by with_reducible assumption) | exact cj6z (by with_reducible assumption) | exact cj7 (by with_reducible assumption) | exact cj7z (by with_reducible assumption))
  k_with "NE" => ((refine neN ?_; (try dsimp only); first | walk_at "CJ" | exact Ne.symm (by walk_at "CJ") | exact Nat.ne_of_lt (by walk_at "CJ") | exact Nat.ne_of_gt (by walk_at "CJ") | exact neP (by walk_at "CJ") | exact Ne.symm (neP (by walk_at "CJ")) | exact neQ (by decide) | exact neR (by decide) | exact Ne.symm (neR (by decide)) | lia))
  k_with "MEM" => (k_dflt assumption)
  k_with "ALL" => ((refine' TB.off (by assumption) (by k_asm) (by k_mem) (by first | (((intro _ zh9; (repeat (first | exact zh9 | exact List.mem_append_right _ zh9 | refine' List.Mem.tail _ ?_)))); done) | fail) (by first | ((first | (intro _ zh9; cases zh9; done) | (intro _ zh9; simp_all)); done) | fail)))
  k_with "ALL" => (first | assumption | exact ofAllLt (by assumption) | exact ofAllLt (allLt_left (by assumption)) | (refine' forallApp ?_ ?_ <;> k_all))
  k_with "ROOM" => (first | lia | ((try simp only [depth_under_make, depth_under_kw, depth_in1, depth_deeper, depth_caller, recursionLimit, units_in1, units_deeper, Around.mark_units, units_caller, cLine] at *); (try dsimp only [ktrTop] at *); lia))
  k_with "TAILIN" => ((intro _ zh9; (try simp only [List.nil_append] at zh9); (repeat (first | exact zh9 | refine' List.Mem.tail _ ?_))))
  k_with "SUBL" => (((try simp only [List.cons_append, List.nil_append]); (repeat (refine List.forall_mem_cons.mpr ⟨by k_mem, ?_⟩)); first | exact List.forall_mem_nil _ | walk_at "TAILIN"))
  k_with "CX" => (exact ⟨by k_asm, by k_asm, by k_asm, by k_asm, by first | exact rfl | assumption, by assumption, by assumption⟩)
  k_with "APP" => ((repeat (first | exact App.nil | exact App.gen _ _ | apply App.cons)))
  k_with "DIS" => ((repeat (first | exact Dis.nil | assumption | (refine' Dis.cons ?_ ?_; focus (first | assumption | k_all)))))
  k_with "call ref" => ((k_here; k_dflt (refine' spec_d2i (by first | ((walk_at "CX"); done) | fail) (by k_asm) (by assumption) (by first | ((walk_at "APP"); done) | fail) (by first | ((walk_at "DIS"); done) | fail) (by is_list) (by l_ints) (by lia) (by first | ((walk_at "LEN"); done) | fail) (by assumption) (by first | ((walk_at "ROOM"); done) | fail) (by first | ((walk_at "ROOM"); done) | fail) ?_; intro _ _ _ _ _ _ zN9 _; (try simp only [List.cons_append, List.nil_append] at zN9); (try dsimp only); (try k_fold))))
  k_with "call ref" => ((k_here; k_dflt (refine' spec_i2d (by first | ((walk_at "CX"); done) | fail) (by k_asm) (by assumption) (by first | ((walk_at "APP"); done) | fail) (by first | ((walk_at "DIS"); done) | fail) (by lia) (by lia) (by assumption) _ (by assumption) (by lia) (by assumption) (by first | ((walk_at "ROOM"); done) | fail) (by first | ((walk_at "ROOM"); done) | fail) ?_; intro _ _ _ _ _ _ _ _ _ zN9 zhf9 _; (try simp only [List.cons_append, List.nil_append] at zN9); (replace zhf9 := allNe_of zhf9; try simp only [AllNe, and_true] at zhf9); (try dsimp only); (try k_fold))))
  k_with "call ref" => ((k_here; k_dflt (refine' spec_d2n (by first | ((walk_at "CX"); done) | fail) (by k_asm) (by assumption) (by assumption) (by assumption) (by first | ((walk_at "ROOM"); done) | fail) (by first | ((walk_at "ROOM"); done) | fail) ?_; intro _ _ _ _ _ _ _ zhf9; (replace zhf9 := allNe_of zhf9; simp only [AllNe, and_true] at zhf9); (try dsimp only); (try k_fold))))
  k_with "LEN" => (first | lia | ((try simp only [List.length_reverse, List.length_append, List.length_map, List.length_cons, List.length_nil, digs_length]); lia))
  k_with "call builtin:list.append" => ((k_here; k_dflt ((try dsimp only); refine' append_K (by k_asm) (by k_asm) (by k_upd) ?_ (by first | ((first | size_fits | (rw [sizeLine_eq]; simp only [List.size_toArray]; lia)); done) | fail)); intro _ _ zN9; (try simp only [List.push_toArray] at zN9); (try k_sweep)))
  k_with "OFF1" => ((repeat (first | exact List.forall_mem_nil _ | (refine' List.forall_mem_cons.mpr ⟨?_, ?_⟩; focus k_ne) | assumption | exact ofAllLt (by assumption) | k_all)))
  k_with "OFF" => ((refine' offSwap ?_; (repeat (first | exact List.forall_mem_nil _ | (refine' List.forall_mem_cons.mpr ⟨?_, ?_⟩; focus walk_at "OFF1")))))
  k_with "call builtin:list.reverse" => ((k_here; k_dflt ((try dsimp only); refine' kl_reverseU (by k_asm) (by k_asm) (by k_upd) (by exact rev_arr _) (by exact szl (by assumption)) ?_); intro _ _ _; (try k_sweep)))
  k_with "call ref" => ((k_here; k_dflt (refine' spec_dpos (by first | ((walk_at "CX"); done) | fail) (by k_asm) (by assumption) (by first | ((walk_at "APP"); done) | fail) (by first | ((walk_at "DIS"); done) | fail) (by first | ((first | assumption | lia); done) | fail) (by first | ((first | assumption | lia); done) | fail) (by assumption) (by assumption) (by first | ((walk_at "ROOM"); done) | fail) (by first | ((walk_at "ROOM"); done) | fail) ?_; intro _ _ _ _ _ _ _ _ zN9 zhf9 _; (try simp only [List.cons_append, List.nil_append] at zN9); (replace zhf9 := allNe_of zhf9; try simp only [AllNe, and_true] at zhf9); (try dsimp only); (try k_fold))))
  k_with "call type:list" => ((k_here; k_dflt (refine' list_revK (by exact rfl) (by k_asm) (by k_asm) (by first | ((first | k_all | fail); done) | fail) (by is_list) (by l_ints) (by first | ((walk_at "LEN"); done) | fail) ?_; intro _ _ _ _ _ _ _ _ _; (try k_sweep))))
  k_with "call builtin:len" => ((k_here; k_dflt (refine' len_ints (by is_list) (by l_ints) (by first | ((first | exact digs_length _ _ _ | exact rfl); done) | fail) (by lia) ?_; (try dsimp only))))
  k_with "SUMLEN" => (((try simp only [digs_length, List.length_append, List.length_reverse, List.length_map]); (simp only [sizeLine_eq]); first | lia | (rename_i e2' e3'; simp_all; lia)))
  k_with "binaryOp Add ref ref" => ((k_here; (with_reducible show wpAny _ _ (binaryOp _ (Value.ref _) (Value.ref _)) _ _ _); k_dflt ((try dsimp only); refine' kmk_add_ints (by k_asm) (by k_asm) (by kmk_list) (by kmk_list) (by l_ints) (by l_ints) ?_ (by first | ((first | walk_at "SUMLEN" | fail); done) | fail)); intro _ _ _ _ _ zl1 _; (try k_lt zl1); (try k_sweep)))
  k_with "TAILIN1" => ((repeat (first | assumption | refine' List.Mem.tail _ ?_)))
  k_with "MEMU" => ((repeat (first | exact List.mem_append_left _ (by assumption) | refine' List.Mem.tail _ ?_)))
  w_on
  w_top on
  obtain ⟨B, F, X, T, hk, CA, CB⟩ := cx
  have hdp' : dp + 86 < 1000 := hdp
  have hun' : un + 870 < 9900 := hun
  have e9 := hap.eq
  subst e9
  have hgb : GotBack TB h₀ L m own s (fun v new => ∃ r t1 t2, v = .ref r ∧ new = [(r, tupII (x.fdiv b) t1 (x.fmod b) t2)]) Q := by
    rintro _ _ t' h' tk' htb' ⟨r, t1, t2, rfl, rfl⟩ F' N' dn dt
    exact hret r t1 t2 t' h' tk' htb' F' N' (fun q hq => dn q hq _ (.head _)) dt
  clear hret
  first | k_dflt ((
        refine' enterP ?k1 ?k2 ?k3 ?k4 ?k5 ?k6 ?kA ?kF ?kK ?k7 ?kd ?k8 ?k9 ?kb ?kB ?kr ?_ ?kc ?c2 ?c3 ?c4
        (case kr => assumption); (case kA => exact rfl); (case kF => exact rfl); (case kK => assumption)
        (case k1 => k_asm); (case k2 => k_asm); (case k3 => k_asm); (case k4 => k_asm); (case k5 => k_asm); (case k6 => assumption)
        (case k7 => k_is); (case kd => exact rfl); (case k8 => k_is); (case k9 => walk_at "ROOM"); (case kb => exact BindsTo.of_eq rfl); (case kB => exact locs rfl); (case kc => decide); (case c2 => exact rfl); (case c3 => exact rfl); (case c4 => exact rfl))) | fail
  intro g' L' h' hkg F' N' B' X' T' l1
  refine holdQ ?_
  intro QR hQR
  clear hkg hgb N F B X T hown hap
  (try dsimp only)
  (try k_fold)
  k_steps
  all_goals try lia
  exact hQR _ _ <| Ret.intro [(_, _)] (by assumption) (by k_asm) (by k_asm) (by first | walk_at "SUBL" | fail) ⟨_, _, _, rfl, rfl⟩

set_option maxHeartbeats 8000000
/- what has been read of the text -/
inductive PhlI (x : Str) (l : Addr) (m₀ : Str → Option Value) (i : Nat) (m : Str → Option Value) (news : Led) : Prop
  | mk (P : PS) (tp : Tok) (rv : List Value) (er : Nat) (h1 : P = PS.run PS.start (x.cps.toList.take i)) (h2 : P.part.cps.size ≤ i) (h3 : P.res.length ≤ i) (h4 : Txts rv P.res)
    (h5 : Held m₀ [Str.ofString "cur"] [(Str.ofString "part", .str P.part tp), (Str.ofString "escape", .bool P.esc), (Str.ofString "quote", .bool P.quo)] m) (h6 : news = [(l, W.listOf rv.toArray er)])
set_option pp.deepTerms.threshold 9 in
theorem spec_phl {w : World} {mg mb : Str → Option Value} {p : Program} {loose : List Str} {mean : ExcName → Option Value}
  {dp un : Nat} {gd : Option (List Code)} {cn : Str} {cs : Scope} {a : Addr} {ccd : Value} {cl : List (Str × Addr)} {outer : List Env} {A₀ : Around} {base h₀ : Heap} {L : Addr} {m : Str → Option Value} {s : Shared} {Q E : Value → Shared → Prop}
  {news : Led} {x : Str} {tx : Tok}
  (cx : Cx w p loose mean mg mb A₀ base outer h₀ s.heap L m cs) (N : News h₀ L s.heap news)
  (ha : x.cps.all (· < 128) = true) (hlen : x.cps.size ≤ 40)
  (hdp : dp + 4 < recursionLimit) (hun : un + 100 < cLine)
  (hret : ∀ r vs ep h' tk', Txts vs ((PS.run PS.start x.cps.toList).fin.map Txt.strip) → Fr h₀ L h' m → News h₀ L h' ((r, W.listOf vs.toArray ep) :: news) → (∀ q ∈ news, q.1 ≠ r) → Q (.ref r) { s with heap := h', toks := tk' }) :
  wpAny (model PySem.Challenge.pw_pg0162_02 w) (ktrTop dp un gd cn cs L a ccd cl outer) (call (.ref 61) [.str x tx]) Q E s := by
  k_with_none
  k_with "CJ" => (first | exact cj0 (by with_reducible assumption) | exact cj1 (by with_reducible assumption) | exact cj2 (by with_reducible assumption) | exact cj2z (by with_reducible assumption) | exact cj3 (by with_reducible assumption) | exact cj3z (by with_reducible assumption) | exact cj4 (by with_reducible assumption) | exact cj4z (by with_reducible assumption) | exact cj5 (by with_reducible assumption) | exact cj5z (by with_reducible assumption) | exact cj6 (by with_reducible assumption) | exact cj6z (by with_reducible assumption) | exact cj7 (by with_reducible assumption) | exact cj7z (by with_reducible assumption))
  k_with "NE" => ((refine neN ?_; (try dsimp only); first | walk_at "CJ" | exact Ne.symm (by walk_at "CJ") | exact Nat.ne_of_lt (by walk_at "CJ") | exact Nat.ne_of_gt (by walk_at "CJ") | exact neP (by walk_at "CJ") | exact Ne.symm (neP (by walk_at "CJ")) | exact neQ (by decide) | exact neR (by decide) | exact Ne.symm (neR (by decide)) | lia))
  k_with "MEM" => (k_dflt assumption)
  k_with "ALL" => ((refine' TB.off (by assumption) (by k_asm) (by k_mem) (by first | (((intro _ zh9; (repeat (first | exact zh9 | exact List.mem_append_right _ zh9 | refine' List.Mem.tail _ ?_)))); done) | fail) (by first | ((first | (intro _ zh9; cases zh9; done) | (intro _ zh9; simp_all)); done) | fail)))
  k_with "ALL" => (first | assumption | exact ofAllLt (by assumption) | exact ofAllLt (allLt_left (by assumption)) | (refine' forallApp ?_ ?_ <;> k_all))
  k_with "ROOM" => (first | lia | ((try simp only [depth_under_make, depth_under_kw, depth_in1, depth_deeper, depth_caller, recursionLimit, units_in1, units_deeper, Around.mark_units, units_caller, cLine] at *); (try dsimp only [ktrTop] at *); lia))
  k_with "TAILIN" => ((intro _ zh9; (try simp only [List.nil_append] at zh9); (repeat (first | exact zh9 | refine' List.Mem.tail _ ?_))))
  k_with "SUBL" => (((try simp only [List.cons_append, List.nil_append]); (repeat (refine List.forall_mem_cons.mpr ⟨by k_mem, ?_⟩)); first | exact List.forall_mem_nil _ | walk_at "TAILIN"))
  k_with "CX" => (exact ⟨by k_asm, by k_asm, by k_asm, by k_asm, by first | exact rfl | assumption, by assumption, by assumption⟩)
  k_with "APP" => ((repeat (first | exact App.nil | exact App.gen _ _ | apply App.cons)))
  k_with "DIS" => ((repeat (first | exact Dis.nil | assumption | (refine' Dis.cons ?_ ?_; focus (first | assumption | k_all)))))
  k_with "call ref" => ((k_here; k_dflt (refine' spec_d2i (by first | ((walk_at "CX"); done) | fail) (by k_asm) (by assumption) (by first | ((walk_at "APP"); done) | fail) (by first | ((walk_at "DIS"); done) | fail) (by is_list) (by l_ints) (by lia) (by first | ((walk_at "LEN"); done) | fail) (by assumption) (by first | ((walk_at "ROOM"); done) | fail) (by first | ((walk_at "ROOM"); done) | fail) ?_; intro _ _ _ _ _ _ zN9 _; (try simp only [List.cons_append, List.nil_append] at zN9); (try dsimp only); (try k_fold))))
  k_with "call ref" => ((k_here; k_dflt (refine' spec_i2d (by first | ((walk_at "CX"); done) | fail) (by k_asm) (by assumption) (by first | ((walk_at "APP"); done) | fail) (by first | ((walk_at "DIS"); done) | fail) (by lia) (by lia) (by assumption) _ (by assumption) (by lia) (by assumption) (by first | ((walk_at "ROOM"); done) | fail) (by first | ((walk_at "ROOM"); done) | fail) ?_; intro _ _ _ _ _ _ _ _ _ zN9 zhf9 _; (try simp only [List.cons_append, List.nil_append] at zN9); (replace zhf9 := allNe_of zhf9; try simp only [AllNe, and_true] at zhf9); (try dsimp only); (try k_fold))))
  k_with "call ref" => ((k_here; k_dflt (refine' spec_d2n (by first | ((walk_at "CX"); done) | fail) (by k_asm) (by assumption) (by assumption) (by assumption) (by first | ((walk_at "ROOM"); done) | fail) (by first | ((walk_at "ROOM"); done) | fail) ?_; intro _ _ _ _ _ _ _ zhf9; (replace zhf9 := allNe_of zhf9; simp only [AllNe, and_true] at zhf9); (try dsimp only); (try k_fold))))
  k_with "LEN" => (first | lia | ((try simp only [List.length_reverse, List.length_append, List.length_map, List.length_cons, List.length_nil, digs_length]); lia))
  k_with "call builtin:list.append" => ((k_here; k_dflt ((try dsimp only); refine' append_K (by k_asm) (by k_asm) (by k_upd) ?_ (by first | ((first | size_fits | (rw [sizeLine_eq]; simp only [List.size_toArray]; lia)); done) | fail)); intro _ _ zN9; (try simp only [List.push_toArray] at zN9); (try k_sweep)))
  k_with "OFF1" => ((repeat (first | exact List.forall_mem_nil _ | (refine' List.forall_mem_cons.mpr ⟨?_, ?_⟩; focus k_ne) | assumption | exact ofAllLt (by assumption) | k_all)))
  k_with "OFF" => ((refine' offSwap ?_; (repeat (first | exact List.forall_mem_nil _ | (refine' List.forall_mem_cons.mpr ⟨?_, ?_⟩; focus walk_at "OFF1")))))
  k_with "call builtin:list.reverse" => ((k_here; k_dflt ((try dsimp only); refine' kl_reverseU (by k_asm) (by k_asm) (by k_upd) (by exact rev_arr _) (by exact szl (by assumption)) ?_); intro _ _ _; (try k_sweep)))
  k_with "call ref" => ((k_here; k_dflt (refine' spec_dpos (by first | ((walk_at "CX"); done) | fail) (by k_asm) (by assumption) (by first | ((walk_at "APP"); done) | fail) (by first | ((walk_at "DIS"); done) | fail) (by first | ((first | assumption | lia); done) | fail) (by first | ((first | assumption | lia); done) | fail) (by assumption) (by assumption) (by first | ((walk_at "ROOM"); done) | fail) (by first | ((walk_at "ROOM"); done) | fail) ?_; intro _ _ _ _ _ _ _ _ zN9 zhf9 _; (try simp only [List.cons_append, List.nil_append] at zN9); (replace zhf9 := allNe_of zhf9; try simp only [AllNe, and_true] at zhf9); (try dsimp only); (try k_fold))))
  k_with "call ref" => ((k_here; k_dflt (refine' spec_idm (by first | ((walk_at "CX"); done) | fail) (by k_asm) (by assumption) (by first | ((walk_at "APP"); done) | fail) (by first | ((walk_at "DIS"); done) | fail) (by first | ((first | assumption | lia); done) | fail) (by first | ((first | assumption | lia); done) | fail) (by assumption) (by assumption) (by first | ((walk_at "ROOM"); done) | fail) (by first | ((walk_at "ROOM"); done) | fail) ?_; intro _ _ _ _ _ _ _ _ zN9 zhf9 _; (try simp only [List.cons_append, List.nil_append] at zN9); (replace zhf9 := allNe_of zhf9; try simp only [AllNe, and_true] at zhf9); (try dsimp only); (try k_fold))))
  k_with "call type:list" => ((k_here; k_dflt (refine' list_revK (by exact rfl) (by k_asm) (by k_asm) (by first | ((first | k_all | fail); done) | fail) (by is_list) (by l_ints) (by first | ((walk_at "LEN"); done) | fail) ?_; intro _ _ _ _ _ _ _ _ _; (try k_sweep))))
  k_with "call builtin:len" => ((k_here; k_dflt (refine' len_ints (by is_list) (by l_ints) (by first | ((first | exact digs_length _ _ _ | exact rfl); done) | fail) (by lia) ?_; (try dsimp only))))
  k_with "SUMLEN" => (((try simp only [digs_length, List.length_append, List.length_reverse, List.length_map]); (simp only [sizeLine_eq]); first | lia | (rename_i e2' e3'; simp_all; lia)))
  k_with "binaryOp Add ref ref" => ((k_here; (with_reducible show wpAny _ _ (binaryOp _ (Value.ref _) (Value.ref _)) _ _ _); k_dflt ((try dsimp only); refine' kmk_add_ints (by k_asm) (by k_asm) (by kmk_list) (by kmk_list) (by l_ints) (by l_ints) ?_ (by first | ((first | walk_at "SUMLEN" | fail); done) | fail)); intro _ _ _ _ _ zl1 _; (try k_lt zl1); (try k_sweep)))
  k_with "TAILIN1" => ((repeat (first | assumption | refine' List.Mem.tail _ ?_)))
  k_with "MEMU" => ((repeat (first | exact List.mem_append_left _ (by assumption) | refine' List.Mem.tail _ ?_)))
  k_with "exec For Name Name cons nil" => ((k_here; (with_unfolding_all refine' For_turns (by with_reducible assumption) ?_ (fun _ => rfl) PassesOwn.never)))
  k_with "STRLEN" => (first | (simp only [sizeLine_eq]; show Array.size _ + Array.size _ ≤ _; simp only [List.size_toArray, List.length_cons, List.length_nil]; lia))
  k_with "inplaceOp" => ((k_here; k_dflt ((try dsimp only); refine' iadd_str ?_ (by first | ((walk_at "STRLEN"); done) | fail); intro _ _; (try dsimp only))))
  k_with "truthy" => ((k_here; dsimp only; k_dflt (refine SBL.truthy (by show ((Array.size _ : Nat) : Int) < _; lia) ?_)))
  k_with "eval ListComp" => ((k_here; lcg_look; lcg_calm; k_dflt (refine LCg.ListComp_U (F₀ := by k_asm) (by with_unfolding_all rfl) (by decide) (by rfl) (by decide) (by rfl) ?_)))
  w_on
  w_top on
  obtain ⟨B, F, X, T, hk, CA, CB⟩ := cx
  have hdp' : dp + 4 < 1000 := hdp
  have hun' : un + 100 < 9900 := hun
  have hgb : GotBack NoT h₀ L m news s (fun v new => ∃ r vs ep, Txts vs ((PS.run PS.start x.cps.toList).fin.map Txt.strip) ∧ v = .ref r ∧ new = [(r, W.listOf vs.toArray ep)]) Q := by
    rintro _ _ t' h' tk' rfl ⟨r, vs, ep, hv, rfl, rfl⟩ F' N' dn dt
    rw [List.append_nil] at N'
    exact hret r vs ep h' tk' hv F' N' fun q hq => dn q hq _ (.head _)
  clear hret
  have N0 : News h₀ L s.heap (news ++ []) := by rw [List.append_nil]; exact N
  have hown : Dis news [] := fun _ _ _ h => nomatch h
  first | k_dflt ((
        refine' enterP ?k1 ?k2 ?k3 ?k4 ?k5 ?k6 ?kA ?kF ?kK ?k7 ?kd ?k8 ?k9 ?kb ?kB ?kr ?_ ?kc ?c2 ?c3 ?c4
        (case kr => assumption); (case kA => exact rfl); (case kF => exact rfl); (case kK => assumption)
        (case k1 => k_asm); (case k2 => k_asm); (case k3 => k_asm); (case k4 => k_asm); (case k5 => k_asm); (case k6 => assumption)
        (case k7 => k_is); (case kd => exact rfl); (case k8 => k_is); (case k9 => walk_at "ROOM"); (case kb => exact BindsTo.of_eq rfl); (case kB => exact locs rfl); (case kc => decide); (case c2 => exact rfl); (case c3 => exact rfl); (case c4 => exact rfl))) | fail
  intro g' L' h' hkg F' N' B' X' T' l1
  refine holdQ ?_
  intro QR hQR
  clear hkg hgb N0 N F B X T hown l1
  (try dsimp only)
  (try k_fold)
  k_steps
  rename_i l hz4 lt hz5 hz6 hz7 hz8 F0 N0
  k_dflt refine' iter_strTurns ?hh ?F ?N ha (fun m₀ i m news => PhlI x l m₀ i m news) ?start ?step ?done
  case hh => exact rfl
  case F => k_asm
  case N => k_asm
  case start =>
    refine' ⟨PS.start, ?tp, [], 0, rfl, Nat.le_refl _, Nat.le_refl _, .nil, ⟨?h1, fun z g1 g2 => rfl⟩, rfl⟩
    case h1 => refine List.forall_mem_cons.mpr ⟨?_, List.forall_mem_cons.mpr ⟨?_, List.forall_mem_cons.mpr ⟨?_, List.forall_mem_nil _⟩⟩⟩ <;> exact rfl
  case step =>
    intro I lI i m9 news9 c u hc hz0 H tk F9
    refine hide ?_
    intro Z hZ
    obtain ⟨P, tp, rv, er, hP, hp1, hp2, hT, hH, rfl⟩ := hz0
    refine hZ ?_
    clear hZ Z
    have hi : i < x.cps.size := (Array.getElem?_eq_some_iff.mp hc).1
    have F9 := hH.fr F9
    refine AllObj.cons (w := (_, _)) fun it hit => AllObj.nil ?_
    intro N9
    simp only [List.cons_append, List.nil_append] at N9
    refine holdT ?_
    intro QT hQT
    obtain ⟨res, part, esc, quo⟩ := P
    have hp1 : part.cps.size ≤ i := hp1
    have hp2 : res.length ≤ i := hp2
    have hT : Txts rv res := hT
    have hsn : PS.run PS.start (x.cps.toList.take (i + 1)) = PS.step ⟨res, part, esc, quo⟩ c := by
      have e : x.cps.toList.take (i + 1) = x.cps.toList.take i ++ [c] := by
        rw [List.take_add_one, show x.cps.toList[i]? = some c by simpa using hc]; rfl
      rw [e, hP]
      show List.foldl _ _ _ = _
      rw [List.foldl_append]; rfl
    have hlt9 : @LT.lt Nat _ l I := lI _ (.head _)
    have hrl : rv.length ≤ 64 := by rw [hT.length]; lia
    cases esc
    · cases quo
      · dsimp only at hp1 hp2 hT F9
        (try dsimp only)
        (try k_fold)
        k_steps
        all_goals ((
              refine' hQT _ _ ?_
              first | refine' TurnP.cont ?F ?N [(l, _)] ?hs ?off ?r | refine' TurnP.next ?F ?N [(l, _)] ?hs ?off ?r
              (case F => k_asm); (case N => k_asm); (case hs => first | walk_at "SUBL" | fail); (case off => first | walk_at "OFF" | fail)
              (case r =>
                refine' ⟨(fun _ h => nomatch h), ⟨_, _, _, _⟩, _, _, _, ?eq, ?b1, ?b2, ?hT, ⟨?h1, ?h2⟩, rfl⟩
                (case h1 => refine List.forall_mem_cons.mpr ⟨?_, List.forall_mem_cons.mpr ⟨?_, List.forall_mem_cons.mpr ⟨?_, List.forall_mem_nil _⟩⟩⟩ <;> exact rfl)
                (case hT => first | exact hT | exact hT.append (.cons _ _ .nil))
                (case h2 => intro z g1 g2; have a1 := g1 _ (.head _); have a2 := g1 _ (.tail _ (.head _)); have a3 := g1 _ (.tail _ (.tail _ (.head _))); have a4 := notIn g2 _ (.head _); (repeat (first | with_reducible exact rfl | with_reducible refine stIf (by assumption) ?_ | with_reducible refine stCons (by assumption) ?_ | with_reducible refine stNil ?_ | with_reducible refine stCon (by assumption) ?_)))
                (case eq => rw [hsn]; clear hP hsn; first | rfl | ((simp only [PS.step, isC, *, if_true, if_false, Bool.false_eq_true]) <;> rfl))
                (case b1 => first | exact Nat.le_succ_of_le hp1 | exact Nat.zero_le _ | (show Array.size (_ ++ _) ≤ _; simp only [Array.size_append, List.size_toArray, List.length_cons, List.length_nil]; lia))
                (case b2 => first | exact Nat.le_succ_of_le hp2 | (show List.length (_ ++ _) ≤ _; rw [List.length_append]; show _ + 1 ≤ _; lia)))))
        all_goals exact (fun _ _ => True : Flow → Shared → Prop)
      · dsimp only at hp1 hp2 hT F9
        (try dsimp only)
        (try k_fold)
        k_steps
        all_goals ((
              refine' hQT _ _ ?_
              first | refine' TurnP.cont ?F ?N [(l, _)] ?hs ?off ?r | refine' TurnP.next ?F ?N [(l, _)] ?hs ?off ?r
              (case F => k_asm); (case N => k_asm); (case hs => first | walk_at "SUBL" | fail); (case off => first | walk_at "OFF" | fail)
              (case r =>
                refine' ⟨(fun _ h => nomatch h), ⟨_, _, _, _⟩, _, _, _, ?eq, ?b1, ?b2, ?hT, ⟨?h1, ?h2⟩, rfl⟩
                (case h1 => refine List.forall_mem_cons.mpr ⟨?_, List.forall_mem_cons.mpr ⟨?_, List.forall_mem_cons.mpr ⟨?_, List.forall_mem_nil _⟩⟩⟩ <;> exact rfl)
                (case hT => first | exact hT | exact hT.append (.cons _ _ .nil))
                (case h2 => intro z g1 g2; have a1 := g1 _ (.head _); have a2 := g1 _ (.tail _ (.head _)); have a3 := g1 _ (.tail _ (.tail _ (.head _))); have a4 := notIn g2 _ (.head _); (repeat (first | with_reducible exact rfl | with_reducible refine stIf (by assumption) ?_ | with_reducible refine stCons (by assumption) ?_ | with_reducible refine stNil ?_ | with_reducible refine stCon (by assumption) ?_)))
                (case eq => rw [hsn]; clear hP hsn; first | rfl | ((simp only [PS.step, isC, *, if_true, if_false, Bool.false_eq_true]) <;> rfl))
                (case b1 => first | exact Nat.le_succ_of_le hp1 | exact Nat.zero_le _ | (show Array.size (_ ++ _) ≤ _; simp only [Array.size_append, List.size_toArray, List.length_cons, List.length_nil]; lia))
                (case b2 => first | exact Nat.le_succ_of_le hp2 | (show List.length (_ ++ _) ≤ _; rw [List.length_append]; show _ + 1 ≤ _; lia)))))
        all_goals exact (fun _ _ => True : Flow → Shared → Prop)
    · dsimp only at hp1 hp2 hT F9
      (try dsimp only)
      (try k_fold)
      k_steps
      all_goals ((
            refine' hQT _ _ ?_
            first | refine' TurnP.cont ?F ?N [(l, _)] ?hs ?off ?r | refine' TurnP.next ?F ?N [(l, _)] ?hs ?off ?r
            (case F => k_asm); (case N => k_asm); (case hs => first | walk_at "SUBL" | fail); (case off => first | walk_at "OFF" | fail)
            (case r =>
              refine' ⟨(fun _ h => nomatch h), ⟨_, _, _, _⟩, _, _, _, ?eq, ?b1, ?b2, ?hT, ⟨?h1, ?h2⟩, rfl⟩
              (case h1 => refine List.forall_mem_cons.mpr ⟨?_, List.forall_mem_cons.mpr ⟨?_, List.forall_mem_cons.mpr ⟨?_, List.forall_mem_nil _⟩⟩⟩ <;> exact rfl)
              (case hT => first | exact hT | exact hT.append (.cons _ _ .nil))
              (case h2 => intro z g1 g2; have a1 := g1 _ (.head _); have a2 := g1 _ (.tail _ (.head _)); have a3 := g1 _ (.tail _ (.tail _ (.head _))); have a4 := notIn g2 _ (.head _); (repeat (first | with_reducible exact rfl | with_reducible refine stIf (by assumption) ?_ | with_reducible refine stCons (by assumption) ?_ | with_reducible refine stNil ?_ | with_reducible refine stCon (by assumption) ?_)))
              (case eq => rw [hsn]; clear hP hsn; first | rfl | ((simp only [PS.step, isC, *, if_true, if_false, Bool.false_eq_true]) <;> rfl))
              (case b1 => first | exact Nat.le_succ_of_le hp1 | exact Nat.zero_le _ | (show Array.size (_ ++ _) ≤ _; simp only [Array.size_append, List.size_toArray, List.length_cons, List.length_nil]; lia))
              (case b2 => first | exact Nat.le_succ_of_le hp2 | (show List.length (_ ++ _) ≤ _; rw [List.length_append]; show _ + 1 ≤ _; lia)))))
      all_goals exact (fun _ _ => True : Flow → Shared → Prop)
  case done =>
    intro m9 news9 hz0 H tk F9 N9
    refine hide ?_
    intro Z hZ
    obtain ⟨P, tp, rv, er, hP, hp1, hp2, hT, hH, rfl⟩ := hz0
    refine hZ ?_
    clear hZ Z
    rw [List.take_of_length_le (by simp)] at hP
    have F9 := hH.fr F9
    have hrl : rv.length ≤ 64 := by rw [hT.length]; lia
    have hsm0 := PS.run_small 40 x.cps.toList PS.start (fun _ h => nomatch h) (by show 0 + _ ≤ 40; simp; lia)
    rw [← hP] at hsm0
    obtain ⟨res, part, esc, quo⟩ := P
    dsimp only at hp1 hp2 hT F9 hsm0
    have hsm : ∀ y ∈ (res ++ [part]), y.cps.size ≤ 40 := by
      intro y hy
      rcases List.mem_append.mp hy with hy | hy
      · exact hsm0 y hy
      · rw [List.mem_singleton.mp hy]; lia
    (try dsimp only)
    (try k_fold)
    k_steps
    · have hemp : ¬ part.cps.size = 0 := by
        rename (¬ (_ = _)) => hq
        intro e
        exact hq (by show ((part.cps.size : Nat) : Int) = 0; rw [e]; rfl)
      k_dflt refine LCg.CompSrc.ledger (its := (rv ++ [Value.str part tp]).toArray) (by rfl) (by k_asm) (by k_asm) (by k_mem) (by rw [sizeLine_eq]; simp; lia) ?_
      intro g9
      have hT9 : Txts (rv ++ [Value.str part tp]) (res ++ [part]) := hT.append1 part tp
      have hs9 : ∀ y ∈ (res ++ [part]), y.cps.size ≤ 40 := hsm
      refine comp_map (n := (rv ++ [Value.str part tp]).toArray.size) (fun i y => ∃ z t, ((res ++ [part]).map Txt.strip)[i]? = some z ∧ y = .str z t) ?hS ?fin ?step _ 0 [] (Nat.zero_add _) rfl (fun j y h => by simp at h)
      case hS => exact .inr ⟨_, by k_mem, rfl, _, rfl⟩
      case fin =>
        intro ys hl hr
        have hys : Txts ys ((res ++ [part]).map Txt.strip) := Txts.of (by rw [hl]; simp [hT9.length]) hr
        unfold LCg.FinE
        intro D8 h8 tk8 F8 N8 o8
        (try simp only [LCg.Off1, and_true] at o8)
        (try dsimp only)
        have e8 : (PS.run PS.start x.cps.toList).fin = (res ++ [part]) := by rw [← hP]; exact if_neg hemp
        exact hQR _ _ <| Ret.intro (t' := []) [(_, _)] rfl (by k_asm) (by k_asm) (by first | walk_at "SUBL" | fail) ⟨_, _, _, by rw [e8]; exact hys, rfl, rfl⟩
      case step =>
        intro i v I9 oI C9 oC D9 m₂ h8 tk8 E8 ys hP9 hC hx F8 N8 off ne
        obtain ⟨z, t9, hz, rfl⟩ := hT9.get (by simpa using hP9)
        have hz40 : z.cps.size ≤ 40 := hs9 z (List.mem_of_getElem? hz)
        have hz41 : z.length ≤ 40 := hz40
        (try simp only [LCg.Off3, and_true] at off)
        (try dsimp only)
        k_steps
        all_goals first | assumption | exact rfl | (rw [List.getElem?_map, hz]; exact rfl)
    · have hemp : part.cps.size = 0 := by
        rename (_ = (0 : Int)) => hq
        have hq' : ((part.cps.size : Nat) : Int) = 0 := hq
        lia
      k_dflt refine LCg.CompSrc.ledger (its := (rv).toArray) (by rfl) (by k_asm) (by k_asm) (by k_mem) (by rw [sizeLine_eq]; simp; lia) ?_
      intro g9
      have hT9 : Txts (rv) res := hT
      have hs9 : ∀ y ∈ res, y.cps.size ≤ 40 := fun y hy => hsm y (List.mem_append_left _ hy)
      refine comp_map (n := (rv).toArray.size) (fun i y => ∃ z t, (res.map Txt.strip)[i]? = some z ∧ y = .str z t) ?hS ?fin ?step _ 0 [] (Nat.zero_add _) rfl (fun j y h => by simp at h)
      case hS => exact .inr ⟨_, by k_mem, rfl, _, rfl⟩
      case fin =>
        intro ys hl hr
        have hys : Txts ys (res.map Txt.strip) := Txts.of (by rw [hl]; simp [hT9.length]) hr
        unfold LCg.FinE
        intro D8 h8 tk8 F8 N8 o8
        (try simp only [LCg.Off1, and_true] at o8)
        (try dsimp only)
        have e8 : (PS.run PS.start x.cps.toList).fin = res := by rw [← hP]; exact if_pos hemp
        exact hQR _ _ <| Ret.intro (t' := []) [(_, _)] rfl (by k_asm) (by k_asm) (by first | walk_at "SUBL" | fail) ⟨_, _, _, by rw [e8]; exact hys, rfl, rfl⟩
      case step =>
        intro i v I9 oI C9 oC D9 m₂ h8 tk8 E8 ys hP9 hC hx F8 N8 off ne
        obtain ⟨z, t9, hz, rfl⟩ := hT9.get (by simpa using hP9)
        have hz40 : z.cps.size ≤ 40 := hs9 z (List.mem_of_getElem? hz)
        have hz41 : z.length ≤ 40 := hz40
        (try simp only [LCg.Off3, and_true] at off)
        (try dsimp only)
        k_steps
        all_goals first | assumption | exact rfl | (rw [List.getElem?_map, hz]; exact rfl)

set_option maxHeartbeats 8000000
set_option pp.deepTerms.threshold 5
theorem spec_com {w : World} {mg mb : Str → Option Value} {p : Program} {loose : List Str} {mean : ExcName → Option Value}
  {dp un : Nat} {gd : Option (List Code)} {cn : Str} {cs : Scope} {a : Addr} {ccd : Value} {cl : List (Str × Addr)} {outer : List Env} {A₀ : Around} {base h₀ : Heap} {L : Addr} {m : Str → Option Value} {s : Shared} {Q E : Value → Shared → Prop}
  {news : Led} {d : Addr} {vs : List Value} {xs : List Str}
  (cx : Cx w p loose mean mg mb A₀ base outer h₀ s.heap L m cs) (N : News h₀ L s.heap news)
  (hd : s.heap.IsList d vs.toArray) (ht : Txts vs xs) (hb : ∀ x ∈ xs, BitOk x) (hlen : xs.length ≤ 40)
  (hdp : dp + 4 < recursionLimit) (hun : un + 100 < cLine)
  (hret : ∀ t h' tk', Fr h₀ L h' m → News h₀ L h' news → Q (.int ((xs.filter lastC).length : Nat) t) { s with heap := h', toks := tk' }) :
  wpAny (model PySem.Challenge.pw_pg0162_02 w) (ktrTop dp un gd cn cs L a ccd cl outer) (call (.ref 83) [.ref d]) Q E s := by
  k_with_none
  k_with "CJ" => (first | exact cj0 (by with_reducible assumption) | exact cj1 (by with_reducible assumption) | exact cj2 (by with_reducible assumption) | exact cj2z (by with_reducible assumption) | exact cj3 (by with_reducible assumption) | exact cj3z (by with_reducible assumption) | exact cj4 (by with_reducible assumption) | exact cj4z (by with_reducible assumption) | exact cj5 (by with_reducible assumption) | exact cj5z (by with_reducible assumption) | exact cj6 (by with_reducible assumption) | exact cj6z (by with_reducible assumption) | exact cj7 (by with_reducible assumption) | exact cj7z (by with_reducible assumption))
  k_with "NE" => ((refine neN ?_; (try dsimp only); first | walk_at "CJ" | exact Ne.symm (by walk_at "CJ") | exact Nat.ne_of_lt (by walk_at "CJ") | exact Nat.ne_of_gt (by walk_at "CJ") | exact neP (by walk_at "CJ") | exact Ne.symm (neP (by walk_at "CJ")) | exact neQ (by decide) | exact neR (by decide) | exact Ne.symm (neR (by decide)) | lia))
  k_with "MEM" => (k_dflt assumption)
  k_with "ALL" => ((refine' TB.off (by assumption) (by k_asm) (by k_mem) (by first | (((intro _ zh9; (repeat (first | exact zh9 | exact List.mem_append_right _ zh9 | refine' List.Mem.tail _ ?_)))); done) | fail) (by first | ((first | (intro _ zh9; cases zh9; done) | (intro _ zh9; simp_all)); done) | fail)))
  k_with "ALL" => (first | assumption | exact ofAllLt (by assumption) | exact ofAllLt (allLt_left (by assumption)) | (refine' forallApp ?_ ?_ <;> k_all))
  k_with "ROOM" => (first | lia | ((try simp only [depth_under_make, depth_under_kw, depth_in1, depth_deeper, depth_caller, recursionLimit, units_in1, units_deeper, Around.mark_units, units_caller, cLine] at *); (try dsimp only [ktrTop] at *); lia))
  k_with "TAILIN" => ((intro _ zh9; (try simp only [List.nil_append] at zh9); (repeat (first | exact zh9 | refine' List.Mem.tail _ ?_))))
  k_with "SUBL" => (((try simp only [List.cons_append, List.nil_append]); (repeat (refine List.forall_mem_cons.mpr ⟨by k_mem, ?_⟩)); first | exact List.forall_mem_nil _ | walk_at "TAILIN"))
  k_with "CX" => (exact ⟨by k_asm, by k_asm, by k_asm, by k_asm, by first | exact rfl | assumption, by assumption, by assumption⟩)
  k_with "APP" => ((repeat (first | exact App.nil | exact App.gen _ _ | apply App.cons)))
  k_with "DIS" => ((repeat (first | exact Dis.nil | assumption | (refine' Dis.cons ?_ ?_; focus (first | assumption | k_all)))))
  k_with "call ref" => ((k_here; k_dflt (refine' spec_d2i (by first | ((walk_at "CX"); done) | fail) (by k_asm) (by assumption) (by first | ((walk_at "APP"); done) | fail) (by first | ((walk_at "DIS"); done) | fail) (by is_list) (by l_ints) (by lia) (by first | ((walk_at "LEN"); done) | fail) (by assumption) (by first | ((walk_at "ROOM"); done) | fail) (by first | ((walk_at "ROOM"); done) | fail) ?_; intro _ _ _ _ _ _ zN9 _; (try simp only [List.cons_append, List.nil_append] at zN9); (try dsimp only); (try k_fold))))
  k_with "call ref" => ((k_here; k_dflt (refine' spec_i2d (by first | ((walk_at "CX"); done) | fail) (by k_asm) (by assumption) (by first | ((walk_at "APP"); done) | fail) (by first | ((walk_at "DIS"); done) | fail) (by lia) (by lia) (by assumption) _ (by assumption) (by lia) (by assumption) (by first | ((walk_at "ROOM"); done) | fail) (by first | ((walk_at "ROOM"); done) | fail) ?_; intro _ _ _ _ _ _ _ _ _ zN9 zhf9 _; (try simp only [List.cons_append, List.nil_append] at zN9); (replace zhf9 := allNe_of zhf9; try simp only [AllNe, and_true] at zhf9); (try dsimp only); (try k_fold))))
  k_with "call ref" => ((k_here; k_dflt (refine' spec_d2n (by first | ((walk_at "CX"); done) | fail) (by k_asm) (by assumption) (by assumption) (by assumption) (by first | ((walk_at "ROOM"); done) | fail) (by first | ((walk_at "ROOM"); done) | fail) ?_; intro _ _ _ _ _ _ _ zhf9; (replace zhf9 := allNe_of zhf9; simp only [AllNe, and_true] at zhf9); (try dsimp only); (try k_fold))))
  k_with "LEN" => (first | lia | ((try simp only [List.length_reverse, List.length_append, List.length_map, List.length_cons, List.length_nil, digs_length]); lia))
  k_with "call builtin:list.append" => ((k_here; k_dflt ((try dsimp only); refine' append_K (by k_asm) (by k_asm) (by k_upd) ?_ (by first | ((first | size_fits | (rw [sizeLine_eq]; simp only [List.size_toArray]; lia)); done) | fail)); intro _ _ zN9; (try simp only [List.push_toArray] at zN9); (try k_sweep)))
  k_with "OFF1" => ((repeat (first | exact List.forall_mem_nil _ | (refine' List.forall_mem_cons.mpr ⟨?_, ?_⟩; focus k_ne) | assumption | exact ofAllLt (by assumption) | k_all)))
  k_with "OFF" => ((refine' offSwap ?_; (repeat (first | exact List.forall_mem_nil _ | (refine' List.forall_mem_cons.mpr ⟨?_, ?_⟩; focus walk_at "OFF1")))))
  k_with "call builtin:list.reverse" => ((k_here; k_dflt ((try dsimp only); refine' kl_reverseU (by k_asm) (by k_asm) (by k_upd) (by exact rev_arr _) (by exact szl (by assumption)) ?_); intro _ _ _; (try k_sweep)))
  k_with "call ref" => ((k_here; k_dflt (refine' spec_dpos (by first | ((walk_at "CX"); done) | fail) (by k_asm) (by assumption) (by first | ((walk_at "APP"); done) | fail) (by first | ((walk_at "DIS"); done) | fail) (by first | ((first | assumption | lia); done) | fail) (by first | ((first | assumption | lia); done) | fail) (by assumption) (by assumption) (by first | ((walk_at "ROOM"); done) | fail) (by first | ((walk_at "ROOM"); done) | fail) ?_; intro _ _ _ _ _ _ _ _ zN9 zhf9 _; (try simp only [List.cons_append, List.nil_append] at zN9); (replace zhf9 := allNe_of zhf9; try simp only [AllNe, and_true] at zhf9); (try dsimp only); (try k_fold))))
  k_with "call ref" => ((k_here; k_dflt (refine' spec_idm (by first | ((walk_at "CX"); done) | fail) (by k_asm) (by assumption) (by first | ((walk_at "APP"); done) | fail) (by first | ((walk_at "DIS"); done) | fail) (by first | ((first | assumption | lia); done) | fail) (by first | ((first | assumption | lia); done) | fail) (by assumption) (by assumption) (by first | ((walk_at "ROOM"); done) | fail) (by first | ((walk_at "ROOM"); done) | fail) ?_; intro _ _ _ _ _ _ _ _ zN9 zhf9 _; (try simp only [List.cons_append, List.nil_append] at zN9); (replace zhf9 := allNe_of zhf9; try simp only [AllNe, and_true] at zhf9); (try dsimp only); (try k_fold))))
  k_with "call type:list" => ((k_here; k_dflt (refine' list_revK (by exact rfl) (by k_asm) (by k_asm) (by first | ((first | k_all | fail); done) | fail) (by is_list) (by l_ints) (by first | ((walk_at "LEN"); done) | fail) ?_; intro _ _ _ _ _ _ _ _ _; (try k_sweep))))
  k_with "call builtin:len" => ((k_here; k_dflt (refine' len_ints (by is_list) (by l_ints) (by first | ((first | exact digs_length _ _ _ | exact rfl); done) | fail) (by lia) ?_; (try dsimp only))))
  k_with "SUMLEN" => (((try simp only [digs_length, List.length_append, List.length_reverse, List.length_map]); (simp only [sizeLine_eq]); first | lia | (rename_i e2' e3'; simp_all; lia)))
  k_with "binaryOp Add ref ref" => ((k_here; (with_reducible show wpAny _ _ (binaryOp _ (Value.ref _) (Value.ref _)) _ _ _); k_dflt ((try dsimp only); refine' kmk_add_ints (by k_asm) (by k_asm) (by kmk_list) (by kmk_list) (by l_ints) (by l_ints) ?_ (by first | ((first | walk_at "SUMLEN" | fail); done) | fail)); intro _ _ _ _ _ zl1 _; (try k_lt zl1); (try k_sweep)))
  k_with "TAILIN1" => ((repeat (first | assumption | refine' List.Mem.tail _ ?_)))
  k_with "MEMU" => ((repeat (first | exact List.mem_append_left _ (by assumption) | refine' List.Mem.tail _ ?_)))
  k_with "eval ListComp" => ((k_here; k_dflt (refine ListComp_G (by k_asm) (by with_unfolding_all rfl) (by decide) (by rfl) (by decide) ?_)))
  k_with "pyIter ref" => ((refine' stopHere ?_))
  k_with "call builtin:len" => ((k_here; k_dflt (refine' len_txts (by is_list) (by assumption) rfl (by lia) ?_); (try dsimp only)))
  w_on
  w_top on
  obtain ⟨B, F, X, T, hk, CA, CB⟩ := cx
  have hdp' : dp + 4 < 1000 := hdp
  have hun' : un + 100 < 9900 := hun
  have hgb : GotBack NoT h₀ L m news s (fun v new => ∃ t, v = .int ((xs.filter lastC).length : Nat) t ∧ new = []) Q := by
    rintro _ _ t' h' tk' rfl ⟨t, rfl, rfl⟩ F' N' dn dt
    rw [List.append_nil] at N'
    exact hret t h' tk' F' N'
  clear hret
  have N0 : News h₀ L s.heap (news ++ []) := by rw [List.append_nil]; exact N
  have hown : Dis news [] := fun _ _ _ h => nomatch h
  first | k_dflt ((
        refine' enterP ?k1 ?k2 ?k3 ?k4 ?k5 ?k6 ?kA ?kF ?kK ?k7 ?kd ?k8 ?k9 ?kb ?kB ?kr ?_ ?kc ?c2 ?c3 ?c4
        (case kr => assumption); (case kA => exact rfl); (case kF => exact rfl); (case kK => assumption)
        (case k1 => k_asm); (case k2 => k_asm); (case k3 => k_asm); (case k4 => k_asm); (case k5 => k_asm); (case k6 => assumption)
        (case k7 => k_is); (case kd => exact rfl); (case k8 => k_is); (case k9 => walk_at "ROOM"); (case kb => exact BindsTo.of_eq rfl); (case kB => exact locs rfl); (case kc => decide); (case c2 => exact rfl); (case c3 => exact rfl); (case c4 => exact rfl))) | fail
  intro g' L' h' hkg F' N' B' X' T' l1
  refine holdQ ?_
  intro QR hQR
  have hd' := listIn0 hkg hd
  clear hkg hgb N0 N F B X T hown l1 hd
  (try dsimp only)
  (try k_fold)
  k_steps
  refine' Stop.go ?_
  have hdg : g'.IsList d vs.toArray := hd'
  obtain ⟨od, hod, _⟩ := hdg
  have hvl := ht.length
  k_dflt refine' listG_comp (vs := vs) (keep := []) (news := []) ?hh ?F ?N (fun _ h => nomatch h) ?hl (.inr ⟨od, hod⟩) ?hsz (fun i m₂ => ∃ v, vs[i]? = some v ∧ m₂ (Str.ofString "bit") = some v) ?hasg (fun i ys gr => gr = [] ∧ Txts ys ((xs.take i).filter lastC)) ?h0 ?step ?fin
  case hh => exact rfl
  case F => k_asm
  case N => exact fun _ h => nomatch h
  case hl => k_dflt is_list
  case hsz => rw [sizeLine_eq]; lia
  case hasg =>
    intro C i v s m' Q E hv hns _ _ hQ
    exact asg_name rfl rfl hns fun h' tk m₂ a b c => hQ h' tk m₂ a ⟨v, hv, b⟩ c
  case h0 => exact ⟨rfl, .nil⟩
  case step =>
    intro I lI C oC D i ys gr m₂ H tk E' hi hyl hz0 hC hz1 F9 hCD off9
    refine hide ?_
    intro Z hZ
    obtain ⟨v, hv, hm⟩ := hz0
    obtain ⟨rfl, hT⟩ := hz1
    obtain ⟨x, t, hx, rfl⟩ := ht.get hv
    refine hZ ?_
    clear hZ Z
    have hbx := hb x (List.mem_of_getElem? hx)
    refine AllObj.cons (w := (_, _)) fun it hit => AllObj.nil ?_
    intro hio1 hio2 N9
    simp only [List.cons_append, List.nil_append] at N9
    refine wpAny_tests_one ?_
    have hfil := take_filter lastC hx
    rcases hbx with rfl | rfl | rfl | rfl
    all_goals (
      (try dsimp only)
      (try k_fold)
      k_steps)
    all_goals (
      refine ⟨_, _, [], rfl, by k_asm, by (simp only [List.cons_append, List.nil_append]; k_asm), (fun p hp => ⟨hio2 p hp, (off9 p hp).1, (off9 p hp).2⟩), rfl, ?_⟩
      rw [hfil]
      first | (rw [if_neg (by decide), List.append_nil]; exact hT) | (rw [if_pos (by decide)]; exact hT.append1 _ _))
  case fin =>
    intro h'
    rintro D H tk ys gr F9 N9 off ⟨rfl, hT⟩
    rw [hvl, List.take_length] at hT
    have hTl := hT.length
    have hfl : (xs.filter lastC).length ≤ xs.length := List.length_filter_le _ _
    simp only [List.nil_append] at N9
    (try dsimp only)
    (try k_fold)
    k_steps
    exact hQR _ _ <| Ret.intro (t' := []) [] rfl (by k_asm) (by k_asm) (fun _ h => nomatch h) ⟨_, rfl, rfl⟩

set_option maxHeartbeats 8000000
set_option pp.deepTerms.threshold 5
def powM (wd : Nat) (ls : List Int) : List Int := ls.map fun l => 2 ^ ((wd : Int) * l).toNat
theorem spec_pow {w : World} {mg mb : Str → Option Value} {p : Program} {loose : List Str} {mean : ExcName → Option Value}
  {dp un : Nat} {gd : Option (List Code)} {cn : Str} {cs : Scope} {a : Addr} {ccd : Value} {cl : List (Str × Addr)} {outer : List Env} {A₀ : Around} {base h₀ : Heap} {L : Addr} {m : Str → Option Value} {s : Shared} {Q E : Value → Shared → Prop}
  {news : Led} {d : Addr} {vs : List Value} {ls : List Int} {wd : Nat} {tw : Tok}
  (cx : Cx w p loose mean mg mb A₀ base outer h₀ s.heap L m cs) (N : News h₀ L s.heap news)
  (hd : s.heap.IsList d vs.toArray) (hi : IntsAre vs ls) (hb : ∀ y ∈ ls, 0 ≤ y ∧ y ≤ 10) (hlen : ls.length ≤ 40) (hwd : wd ≤ 12)
  (hdp : dp + 4 < recursionLimit) (hun : un + 100 < cLine)
  (hret : ∀ t h' tk', Fr h₀ L h' m → News h₀ L h' news → Q (.int (powM wd ls).sum t) { s with heap := h', toks := tk' }) :
  wpAny (model PySem.Challenge.pw_pg0162_02 w) (ktrTop dp un gd cn cs L a ccd cl outer) (call (.ref 88) [.ref d, .int (wd : Int) tw]) Q E s := by
  k_with_none
  k_with "CJ" => (first | exact cj0 (by with_reducible assumption) | exact cj1 (by with_reducible assumption) | exact cj2 (by with_reducible assumption) | exact cj2z (by with_reducible assumption) | exact cj3 (by with_reducible assumption) | exact cj3z (by with_reducible assumption) | exact cj4 (by with_reducible assumption) | exact cj4z (by with_reducible assumption) | exact cj5 (by with_reducible assumption) | exact cj5z (by with_reducible assumption) | exact cj6 (by with_reducible assumption) | exact cj6z (by with_reducible assumption) | exact cj7 (by with_reducible assumption) | exact cj7z (by with_reducible assumption))
  k_with "NE" => ((refine neN ?_; (try dsimp only); first | walk_at "CJ" | exact Ne.symm (by walk_at "CJ") | exact Nat.ne_of_lt (by walk_at "CJ") | exact Nat.ne_of_gt (by walk_at "CJ") | exact neP (by walk_at "CJ") | exact Ne.symm (neP (by walk_at "CJ")) | exact neQ (by decide) | exact neR (by decide) | exact Ne.symm (neR (by decide)) | lia))
  k_with "MEM" => (k_dflt assumption)
  k_with "ALL" => ((refine' TB.off (by assumption) (by k_asm) (by k_mem) (by first | (((intro _ zh9; (repeat (first | exact zh9 | exact List.mem_append_right _ zh9 | refine' List.Mem.tail _ ?_)))); done) | fail) (by first | ((first | (intro _ zh9; cases zh9; done) | (intro _ zh9; simp_all)); done) | fail)))
  k_with "ALL" => (first | assumption | exact ofAllLt (by assumption) | exact ofAllLt (allLt_left (by assumption)) | (refine' forallApp ?_ ?_ <;> k_all))
  k_with "ROOM" => (first | lia | ((try simp only [depth_under_make, depth_under_kw, depth_in1, depth_deeper, depth_caller, recursionLimit, units_in1, units_deeper, Around.mark_units, units_caller, cLine] at *); (try dsimp only [ktrTop] at *); lia))
  k_with "TAILIN" => ((intro _ zh9; (try simp only [List.nil_append] at zh9); (repeat (first | exact zh9 | refine' List.Mem.tail _ ?_))))
  k_with "SUBL" => (((try simp only [List.cons_append, List.nil_append]); (repeat (refine List.forall_mem_cons.mpr ⟨by k_mem, ?_⟩)); first | exact List.forall_mem_nil _ | walk_at "TAILIN"))
  k_with "CX" => (exact ⟨by k_asm, by k_asm, by k_asm, by k_asm, by first | exact rfl | assumption, by assumption, by assumption⟩)
  k_with "APP" => ((repeat (first | exact App.nil | exact App.gen _ _ | apply App.cons)))
  k_with "DIS" => ((repeat (first | exact Dis.nil | assumption | (refine' Dis.cons ?_ ?_; focus (first | assumption | k_all)))))
  k_with "call ref" => ((k_here; k_dflt (refine' spec_d2i (by first | ((walk_at "CX"); done) | fail) (by k_asm) (by assumption) (by first | ((walk_at "APP"); done) | fail) (by first | ((walk_at "DIS"); done) | fail) (by is_list) (by l_ints) (by lia) (by first | ((walk_at "LEN"); done) | fail) (by assumption) (by first | ((walk_at "ROOM"); done) | fail) (by first | ((walk_at "ROOM"); done) | fail) ?_; intro _ _ _ _ _ _ zN9 _; (try simp only [List.cons_append, List.nil_append] at zN9); (try dsimp only); (try k_fold))))
  k_with "call ref" => ((k_here; k_dflt (refine' spec_i2d (by first | ((walk_at "CX"); done) | fail) (by k_asm) (by assumption) (by first | ((walk_at "APP"); done) | fail) (by first | ((walk_at "DIS"); done) | fail) (by lia) (by lia) (by assumption) _ (by assumption) (by lia) (by assumption) (by first | ((walk_at "ROOM"); done) | fail) (by first | ((walk_at "ROOM"); done) | fail) ?_; intro _ _ _ _ _ _ _ _ _ zN9 zhf9 _; (try simp only [List.cons_append, List.nil_append] at zN9); (replace zhf9 := allNe_of zhf9; try simp only [AllNe, and_true] at zhf9); (try dsimp only); (try k_fold))))
  k_with "call ref" => ((k_here; k_dflt (refine' spec_d2n (by first | ((walk_at "CX"); done) | fail) (by k_asm) (by assumption) (by assumption) (by assumption) (by first | ((walk_at "ROOM"); done) | fail) (by first | ((walk_at "ROOM"); done) | fail) ?_; intro _ _ _ _ _ _ _ zhf9; (replace zhf9 := allNe_of zhf9; simp only [AllNe, and_true] at zhf9); (try dsimp only); (try k_fold))))
  k_with "LEN" => (first | lia | ((try simp only [List.length_reverse, List.length_append, List.length_map, List.length_cons, List.length_nil, digs_length]); lia))
  k_with "call builtin:list.append" => ((k_here; k_dflt ((try dsimp only); refine' append_K (by k_asm) (by k_asm) (by k_upd) ?_ (by first | ((first | size_fits | (rw [sizeLine_eq]; simp only [List.size_toArray]; lia)); done) | fail)); intro _ _ zN9; (try simp only [List.push_toArray] at zN9); (try k_sweep)))
  k_with "OFF1" => ((repeat (first | exact List.forall_mem_nil _ | (refine' List.forall_mem_cons.mpr ⟨?_, ?_⟩; focus k_ne) | assumption | exact ofAllLt (by assumption) | k_all)))
  k_with "OFF" => ((refine' offSwap ?_; (repeat (first | exact List.forall_mem_nil _ | (refine' List.forall_mem_cons.mpr ⟨?_, ?_⟩; focus walk_at "OFF1")))))
  k_with "call builtin:list.reverse" => ((k_here; k_dflt ((try dsimp only); refine' kl_reverseU (by k_asm) (by k_asm) (by k_upd) (by exact rev_arr _) (by exact szl (by assumption)) ?_); intro _ _ _; (try k_sweep)))
  k_with "call ref" => ((k_here; k_dflt (refine' spec_dpos (by first | ((walk_at "CX"); done) | fail) (by k_asm) (by assumption) (by first | ((walk_at "APP"); done) | fail) (by first | ((walk_at "DIS"); done) | fail) (by first | ((first | assumption | lia); done) | fail) (by first | ((first | assumption | lia); done) | fail) (by assumption) (by assumption) (by first | ((walk_at "ROOM"); done) | fail) (by first | ((walk_at "ROOM"); done) | fail) ?_; intro _ _ _ _ _ _ _ _ zN9 zhf9 _; (try simp only [List.cons_append, List.nil_append] at zN9); (replace zhf9 := allNe_of zhf9; try simp only [AllNe, and_true] at zhf9); (try dsimp only); (try k_fold))))
  k_with "call ref" => ((k_here; k_dflt (refine' spec_idm (by first | ((walk_at "CX"); done) | fail) (by k_asm) (by assumption) (by first | ((walk_at "APP"); done) | fail) (by first | ((walk_at "DIS"); done) | fail) (by first | ((first | assumption | lia); done) | fail) (by first | ((first | assumption | lia); done) | fail) (by assumption) (by assumption) (by first | ((walk_at "ROOM"); done) | fail) (by first | ((walk_at "ROOM"); done) | fail) ?_; intro _ _ _ _ _ _ _ _ zN9 zhf9 _; (try simp only [List.cons_append, List.nil_append] at zN9); (replace zhf9 := allNe_of zhf9; try simp only [AllNe, and_true] at zhf9); (try dsimp only); (try k_fold))))
  k_with "call type:list" => ((k_here; k_dflt (refine' list_revK (by exact rfl) (by k_asm) (by k_asm) (by first | ((first | k_all | fail); done) | fail) (by is_list) (by l_ints) (by first | ((walk_at "LEN"); done) | fail) ?_; intro _ _ _ _ _ _ _ _ _; (try k_sweep))))
  k_with "call builtin:len" => ((k_here; k_dflt (refine' len_ints (by is_list) (by l_ints) (by first | ((first | exact digs_length _ _ _ | exact rfl); done) | fail) (by lia) ?_; (try dsimp only))))
  k_with "SUMLEN" => (((try simp only [digs_length, List.length_append, List.length_reverse, List.length_map]); (simp only [sizeLine_eq]); first | lia | (rename_i e2' e3'; simp_all; lia)))
  k_with "binaryOp Add ref ref" => ((k_here; (with_reducible show wpAny _ _ (binaryOp _ (Value.ref _) (Value.ref _)) _ _ _); k_dflt ((try dsimp only); refine' kmk_add_ints (by k_asm) (by k_asm) (by kmk_list) (by kmk_list) (by l_ints) (by l_ints) ?_ (by first | ((first | walk_at "SUMLEN" | fail); done) | fail)); intro _ _ _ _ _ zl1 _; (try k_lt zl1); (try k_sweep)))
  k_with "TAILIN1" => ((repeat (first | assumption | refine' List.Mem.tail _ ?_)))
  k_with "MEMU" => ((repeat (first | exact List.mem_append_left _ (by assumption) | refine' List.Mem.tail _ ?_)))
  k_with "eval ListComp" => ((k_here; k_dflt (refine LCg.ListComp_U (F₀ := by k_asm) (by with_unfolding_all rfl) (by decide) (by rfl) (by decide) (by rfl) ?_)))
  k_with "CompSrc" => ((refine' stopHere ?_))
  k_with "call builtin:sum" => ((k_here; k_dflt (refine' sumK (by exact rfl) (by k_asm) (by k_asm) (by is_list) (by assumption) ?_; intro _ _ _ _ _; (try dsimp only); (try k_sweep))))
  w_on
  w_top on
  obtain ⟨B, F, X, T, hk, CA, CB⟩ := cx
  have hdp' : dp + 4 < 1000 := hdp
  have hun' : un + 100 < 9900 := hun
  have hgb : GotBack NoT h₀ L m news s (fun v new => ∃ t, v = .int (powM wd ls).sum t ∧ new = []) Q := by
    rintro _ _ t' h' tk' rfl ⟨t, rfl, rfl⟩ F' N' dn dt
    rw [List.append_nil] at N'
    exact hret t h' tk' F' N'
  clear hret
  have N0 : News h₀ L s.heap (news ++ []) := by rw [List.append_nil]; exact N
  have hown : Dis news [] := fun _ _ _ h => nomatch h
  first | k_dflt ((
        refine' enterC ?k1 ?k2 ?k3 ?k4 ?k5 ?k6 ?kA ?kF ?kK ?k7 ?kd ?k8 ?k9 ?kb ?kB ?kD ?kr ?_ ?c2 ?c3 ?c4
        (case kr => assumption); (case kA => exact rfl); (case kF => exact rfl); (case kK => assumption)
        (case k1 => k_asm); (case k2 => k_asm); (case k3 => k_asm); (case k4 => k_asm); (case k5 => k_asm); (case k6 => assumption)
        (case k7 => k_is); (case kd => exact rfl); (case k8 => k_is); (case k9 => walk_at "ROOM"); (case kb => exact BindsTo.of_eq rfl); (case kB => exact rfl); (case kD => decide +kernel); (case c2 => exact rfl); (case c3 => exact rfl); (case c4 => exact rfl))) | fail
  intro g' L' h' tk' cells' hkg F' N' Y' B' X' T' l1
  refine holdQ ?_
  intro QR hQR
  have hd' := listIn0 hkg hd
  clear hkg
  k_cells Y'
  simp only [List.cons_append, List.nil_append, List.append_nil] at N'
  clear hgb N0 N F B X T hown l1 hd
  (try dsimp only)
  (try k_fold)
  k_steps
  refine' Stop.go ?_
  have hvl := hi.length
  k_dflt refine LCg.CompSrc.base (its := vs.toArray) (by rfl) (by k_asm) (by k_asm) hd' (by rw [sizeLine_eq]; simp only [List.size_toArray]; lia) ?_
  intro g9
  refine comp_map (n := vs.toArray.size) (fun i y => ∃ k t, (powM wd ls)[i]? = some k ∧ y = Value.int k t) ?hS ?fin ?step _ 0 [] (Nat.zero_add _) rfl (fun j y h => by simp at h)
  case hS => exact .inl hd'
  case step =>
    intro i v I9 oI C9 oC D9 m₂ h8 tk8 E8 ys hP9 hC hx F8 N8 off ne
    obtain ⟨k, t9, hz, rfl⟩ := intsGetK hi (by simpa using hP9)
    have hkb := hb k (List.mem_of_getElem? hz)
    have he : 0 ≤ (wd : Int) * k ∧ (wd : Int) * k ≤ 120 := by
      refine ⟨Int.mul_nonneg (by lia) hkb.1, ?_⟩
      have : (wd : Int) * k ≤ 12 * 10 := Int.mul_le_mul (by lia) hkb.2 hkb.1 (by decide)
      lia
    (try simp only [LCg.Off3, and_true] at off)
    (try dsimp only)
    k_steps
    all_goals first | assumption | exact rfl | (unfold powM; rw [List.getElem?_map, hz]; exact rfl)
  case fin =>
    intro ys hl hr
    have hys : IntsAre ys (powM wd ls) := intsOf (by rw [hl]; simp only [List.size_toArray, powM, List.length_map]; lia) hr
    unfold LCg.FinE
    intro D8 h8 tk8 F8 N8 o8
    (try simp only [LCg.Off1, and_true] at o8)
    (try dsimp only)
    k_steps
    exact hQR _ _ <| Ret.intro (t' := []) [] rfl (by k_asm) (by k_asm) (fun _ h => nomatch h) ⟨_, rfl, rfl⟩

set_option maxHeartbeats 8000000
set_option pp.deepTerms.threshold 5
theorem spec_pie {w : World} {mg mb : Str → Option Value} {p : Program} {loose : List Str} {mean : ExcName → Option Value}
  {dp un : Nat} {gd : Option (List Code)} {cn : Str} {cs : Scope} {a : Addr} {ccd : Value} {cl : List (Str × Addr)} {outer : List Env} {A₀ : Around} {base h₀ : Heap} {L : Addr} {m : Str → Option Value} {s : Shared} {Q E : Value → Shared → Prop}
  {news : Led} {n : Int} {tn : Tok}
  (cx : Cx w p loose mean mg mb A₀ base outer h₀ s.heap L m cs) (N : News h₀ L s.heap news)
  (hn0 : 0 ≤ n) (hn1 : n < 10 ^ 6)
  (hdp : dp + 4 < recursionLimit) (hun : un + 100 < cLine)
  (hret : ∀ r vs xs ep h' tk', Txts vs xs → xs.length ≤ 2 → (∀ x ∈ xs, BitOk x) → Fr h₀ L h' m → News h₀ L h' ((r, W.listOf vs.toArray ep) :: news) → (∀ q ∈ news, q.1 ≠ r) → Q (.ref r) { s with heap := h', toks := tk' }) :
  wpAny (model PySem.Challenge.pw_pg0162_02 w) (ktrTop dp un gd cn cs L a ccd cl outer) (call (.ref 66) [.int n tn]) Q E s := by
  k_with_none
  k_with "CJ" => (first | exact cj0 (by with_reducible assumption) | exact cj1 (by with_reducible assumption) | exact cj2 (by with_reducible assumption) | exact cj2z (by with_reducible assumption) | exact cj3 (by with_reducible assumption) | exact cj3z (by with_reducible assumption) | exact cj4 (by with_reducible assumption) | exact cj4z (by with_reducible assumption) | exact cj5 (by with_reducible assumption) | exact cj5z (by with_reducible assumption) | exact cj6 (by with_reducible assumption) | exact cj6z (by with_reducible assumption) | exact cj7 (by with_reducible assumption) | exact cj7z (by with_reducible assumption))
  k_with "NE" => ((refine neN ?_; (try dsimp only); first | walk_at "CJ" | exact Ne.symm (by walk_at "CJ") | exact Nat.ne_of_lt (by walk_at "CJ") | exact Nat.ne_of_gt (by walk_at "CJ") | exact neP (by walk_at "CJ") | exact Ne.symm (neP (by walk_at "CJ")) | exact neQ (by decide) | exact neR (by decide) | exact Ne.symm (neR (by decide)) | lia))
  k_with "MEM" => (k_dflt assumption)
  k_with "ALL" => ((refine' TB.off (by assumption) (by k_asm) (by k_mem) (by first | (((intro _ zh9; (repeat (first | exact zh9 | exact List.mem_append_right _ zh9 | refine' List.Mem.tail _ ?_)))); done) | fail) (by first | ((first | (intro _ zh9; cases zh9; done) | (intro _ zh9; simp_all)); done) | fail)))
  k_with "ALL" => (first | assumption | exact ofAllLt (by assumption) | exact ofAllLt (allLt_left (by assumption)) | (refine' forallApp ?_ ?_ <;> k_all))
  k_with "ROOM" => (first | lia | ((try simp only [depth_under_make, depth_under_kw, depth_in1, depth_deeper, depth_caller, recursionLimit, units_in1, units_deeper, Around.mark_units, units_caller, cLine] at *); (try dsimp only [ktrTop] at *); lia))
  k_with "TAILIN" => ((intro _ zh9; (try simp only [List.nil_append] at zh9); (repeat (first | exact zh9 | refine' List.Mem.tail _ ?_))))
  k_with "SUBL" => (((try simp only [List.cons_append, List.nil_append]); (repeat (refine List.forall_mem_cons.mpr ⟨by k_mem, ?_⟩)); first | exact List.forall_mem_nil _ | walk_at "TAILIN"))
  k_with "CX" => (exact ⟨by k_asm, by k_asm, by k_asm, by k_asm, by first | exact rfl | assumption, by assumption, by assumption⟩)
  k_with "APP" => ((repeat (first | exact App.nil | exact App.gen _ _ | apply App.cons)))
  k_with "DIS" => ((repeat (first | exact Dis.nil | assumption | (refine' Dis.cons ?_ ?_; focus (first | assumption | k_all)))))
  k_with "call ref" => ((k_here; k_dflt (refine' spec_d2i (by first | ((walk_at "CX"); done) | fail) (by k_asm) (by assumption) (by first | ((walk_at "APP"); done) | fail) (by first | ((walk_at "DIS"); done) | fail) (by is_list) (by l_ints) (by lia) (by first | ((walk_at "LEN"); done) | fail) (by assumption) (by first | ((walk_at "ROOM"); done) | fail) (by first | ((walk_at "ROOM"); done) | fail) ?_; intro _ _ _ _ _ _ zN9 _; (try simp only [List.cons_append, List.nil_append] at zN9); (try dsimp only); (try k_fold))))
  k_with "call ref" => ((k_here; k_dflt (refine' spec_i2d (by first | ((walk_at "CX"); done) | fail) (by k_asm) (by assumption) (by first | ((walk_at "APP"); done) | fail) (by first | ((walk_at "DIS"); done) | fail) (by lia) (by lia) (by assumption) _ (by assumption) (by lia) (by assumption) (by first | ((walk_at "ROOM"); done) | fail) (by first | ((walk_at "ROOM"); done) | fail) ?_; intro _ _ _ _ _ _ _ _ _ zN9 zhf9 _; (try simp only [List.cons_append, List.nil_append] at zN9); (replace zhf9 := allNe_of zhf9; try simp only [AllNe, and_true] at zhf9); (try dsimp only); (try k_fold))))
  k_with "call ref" => ((k_here; k_dflt (refine' spec_d2n (by first | ((walk_at "CX"); done) | fail) (by k_asm) (by assumption) (by assumption) (by assumption) (by first | ((walk_at "ROOM"); done) | fail) (by first | ((walk_at "ROOM"); done) | fail) ?_; intro _ _ _ _ _ _ _ zhf9; (replace zhf9 := allNe_of zhf9; simp only [AllNe, and_true] at zhf9); (try dsimp only); (try k_fold))))
  k_with "LEN" => (first | lia | ((try simp only [List.length_reverse, List.length_append, List.length_map, List.length_cons, List.length_nil, digs_length]); lia))
  k_with "call builtin:list.append" => ((k_here; k_dflt ((try dsimp only); refine' append_K (by k_asm) (by k_asm) (by k_upd) ?_ (by first | ((first | size_fits | (rw [sizeLine_eq]; simp only [List.size_toArray]; lia)); done) | fail)); intro _ _ zN9; (try simp only [List.push_toArray] at zN9); (try k_sweep)))
  k_with "OFF1" => ((repeat (first | exact List.forall_mem_nil _ | (refine' List.forall_mem_cons.mpr ⟨?_, ?_⟩; focus k_ne) | assumption | exact ofAllLt (by assumption) | k_all)))
  k_with "OFF" => ((refine' offSwap ?_; (repeat (first | exact List.forall_mem_nil _ | (refine' List.forall_mem_cons.mpr ⟨?_, ?_⟩; focus walk_at "OFF1")))))
  k_with "call builtin:list.reverse" => ((k_here; k_dflt ((try dsimp only); refine' kl_reverseU (by k_asm) (by k_asm) (by k_upd) (by exact rev_arr _) (by exact szl (by assumption)) ?_); intro _ _ _; (try k_sweep)))
  k_with "call ref" => ((k_here; k_dflt (refine' spec_dpos (by first | ((walk_at "CX"); done) | fail) (by k_asm) (by assumption) (by first | ((walk_at "APP"); done) | fail) (by first | ((walk_at "DIS"); done) | fail) (by first | ((first | assumption | lia); done) | fail) (by first | ((first | assumption | lia); done) | fail) (by assumption) (by assumption) (by first | ((walk_at "ROOM"); done) | fail) (by first | ((walk_at "ROOM"); done) | fail) ?_; intro _ _ _ _ _ _ _ _ zN9 zhf9 _; (try simp only [List.cons_append, List.nil_append] at zN9); (replace zhf9 := allNe_of zhf9; try simp only [AllNe, and_true] at zhf9); (try dsimp only); (try k_fold))))
  k_with "call ref" => ((k_here; k_dflt (refine' spec_idm (by first | ((walk_at "CX"); done) | fail) (by k_asm) (by assumption) (by first | ((walk_at "APP"); done) | fail) (by first | ((walk_at "DIS"); done) | fail) (by first | ((first | assumption | lia); done) | fail) (by first | ((first | assumption | lia); done) | fail) (by assumption) (by assumption) (by first | ((walk_at "ROOM"); done) | fail) (by first | ((walk_at "ROOM"); done) | fail) ?_; intro _ _ _ _ _ _ _ _ zN9 zhf9 _; (try simp only [List.cons_append, List.nil_append] at zN9); (replace zhf9 := allNe_of zhf9; try simp only [AllNe, and_true] at zhf9); (try dsimp only); (try k_fold))))
  k_with "call type:list" => ((k_here; k_dflt (refine' list_revK (by exact rfl) (by k_asm) (by k_asm) (by first | ((first | k_all | fail); done) | fail) (by is_list) (by l_ints) (by first | ((walk_at "LEN"); done) | fail) ?_; intro _ _ _ _ _ _ _ _ _; (try k_sweep))))
  k_with "call builtin:len" => ((k_here; k_dflt (refine' len_ints (by is_list) (by l_ints) (by first | ((first | exact digs_length _ _ _ | exact rfl); done) | fail) (by lia) ?_; (try dsimp only))))
  k_with "SUMLEN" => (((try simp only [digs_length, List.length_append, List.length_reverse, List.length_map]); (simp only [sizeLine_eq]); first | lia | (rename_i e2' e3'; simp_all; lia)))
  k_with "binaryOp Add ref ref" => ((k_here; (with_reducible show wpAny _ _ (binaryOp _ (Value.ref _) (Value.ref _)) _ _ _); k_dflt ((try dsimp only); refine' kmk_add_ints (by k_asm) (by k_asm) (by kmk_list) (by kmk_list) (by l_ints) (by l_ints) ?_ (by first | ((first | walk_at "SUMLEN" | fail); done) | fail)); intro _ _ _ _ _ zl1 _; (try k_lt zl1); (try k_sweep)))
  k_with "TAILIN1" => ((repeat (first | assumption | refine' List.Mem.tail _ ?_)))
  k_with "MEMU" => ((repeat (first | exact List.mem_append_left _ (by assumption) | refine' List.Mem.tail _ ?_)))
  k_with "eval ListComp" => ((k_here; k_dflt (refine LCg.ListComp_U (F₀ := by k_asm) (by with_unfolding_all rfl) (by decide) (by rfl) (by decide) (by rfl) ?_)))
  k_with "CompSrc" => ((refine' stopHere ?_))
  k_with "subscriptTail" => ((k_here; k_dflt (refine' tup4 (by exact News.isTup (by k_asm) (by k_mem)) (by exact Int.fmod_nonneg_of_pos _ (by decide)) (by exact Int.fmod_lt_of_pos _ (by decide)) ?_; intro _ _)))
  w_on
  w_top on
  obtain ⟨B, F, X, T, hk, CA, CB⟩ := cx
  have hdp' : dp + 4 < 1000 := hdp
  have hun' : un + 100 < 9900 := hun
  have hgb : GotBack NoT h₀ L m news s (fun v new => ∃ r vs xs ep, Txts vs xs ∧ xs.length ≤ 2 ∧ (∀ x ∈ xs, BitOk x) ∧ v = .ref r ∧ new = [(r, W.listOf vs.toArray ep)]) Q := by
    rintro _ _ t' h' tk' rfl ⟨r, vs, xs, ep, a1, a2, a3, rfl, rfl⟩ F' N' dn dt
    rw [List.append_nil] at N'
    exact hret r vs xs ep h' tk' a1 a2 a3 F' N' fun q hq => dn q hq _ (.head _)
  clear hret
  have N0 : News h₀ L s.heap (news ++ []) := by rw [List.append_nil]; exact N
  have hown : Dis news [] := fun _ _ _ h => nomatch h
  first | k_dflt ((
        refine' enterC ?k1 ?k2 ?k3 ?k4 ?k5 ?k6 ?kA ?kF ?kK ?k7 ?kd ?k8 ?k9 ?kb ?kB ?kD ?kr ?_ ?c2 ?c3 ?c4
        (case kr => assumption); (case kA => exact rfl); (case kF => exact rfl); (case kK => assumption)
        (case k1 => k_asm); (case k2 => k_asm); (case k3 => k_asm); (case k4 => k_asm); (case k5 => k_asm); (case k6 => assumption)
        (case k7 => k_is); (case kd => exact rfl); (case k8 => k_is); (case k9 => walk_at "ROOM"); (case kb => exact BindsTo.of_eq rfl); (case kB => exact rfl); (case kD => decide +kernel); (case c2 => exact rfl); (case c3 => exact rfl); (case c4 => exact rfl))) | fail
  intro g' L' h' tk' cells' hkg F' N' Y' B' X' T' l1
  refine holdQ ?_
  intro QR hQR
  clear hkg
  k_cells Y'
  simp only [List.cons_append, List.nil_append, List.append_nil] at N'
  clear hgb N0 N F B X T hown l1
  (try dsimp only)
  (try k_fold)
  k_steps
  refine' Stop.go ?_
  obtain ⟨k, hk3, hk2⟩ : ∃ k : Nat, n.fmod 3 = (k : Int) ∧ k ≤ 2 := by
    have h1 := Int.fmod_nonneg_of_pos n (show (0 : Int) < 3 by decide)
    have h2 := Int.fmod_lt_of_pos n (show (0 : Int) < 3 by decide)
    exact ⟨(n.fmod 3).toNat, by lia, by lia⟩
  k_dflt refine LCg.CompSrc.range (n := k) (by rfl) (by k_asm) (by k_asm) (by assumption) (range_small (by lia) (by lia)) (range_n hk3) (by rw [sizeLine_eq]; lia) ?_
  intro g9
  refine comp_mapN (n := k) (fun i y => BitRel y) ?hS ?fin ?step _ 0 [] (Nat.zero_add _) rfl (fun j y h => by simp at h)
  case hS => exact True.intro
  case step =>
    intro i v hik I9 oI C9 oC D9 m₂ h8 tk8 E8 ys hP9 hC hx F8 N8 off ne
    obtain ⟨t9, rfl⟩ := hP9
    have hi2 : i = 0 ∨ i = 1 := by lia
    (try simp only [LCg.Off3, and_true] at off)
    rcases hi2 with rfl | rfl
    all_goals (
      (try dsimp only)
      k_steps)
    all_goals first | assumption | exact rfl | exact newsSub (by assumption) (by walk_at "SUBL") | exact bitRel4 (by assumption)
  case fin =>
    intro ys hl hr
    unfold LCg.FinE
    intro D8 h8 tk8 F8 N8 o8
    (try simp only [LCg.Off1, and_true] at o8)
    (try dsimp only)
    obtain ⟨xs, h1, h2⟩ := bits_of hr
    exact hQR _ _ <| Ret.intro (t' := []) [(_, _)] rfl (by k_asm) (by k_asm) (by first | walk_at "SUBL" | fail) ⟨_, _, _, _, h1, by rw [← h1.length, hl]; exact hk2, h2, rfl, rfl⟩

/- the reader ahead of a piece, and amid one -/
inductive ReaO (ps : List (List Str)) (mks : List Str) (D lI : Addr) (zs : List Value) (m₀ : Str → Option Value) (i : Nat) (m : Str → Option Value) (news : Led) : Prop
  | mk (st : RS) (rv : List Value) (tc : Tok) (er : Nat) (h1 : st = RS.to ⟨[], Str.ofString "", false⟩ (Str.ofString "" :: mks) ps i) (h2 : Txts rv st.dn) (h3 : st.cur.cps.size ≤ 9 * i) (h4 : st.dn.length ≤ 2 * i)
    (h5 : Held m₀ [Str.ofString "mark", Str.ofString "piece", Str.ofString "bit"] [(Str.ofString "quoted", .bool st.q)] m) (h6 : news = [(D, W.listOf zs.toArray 0), (lI, W.listOf (rv ++ [Value.str st.cur tc]).toArray er)])
inductive ReaI (xs9 : List Str) (dn : List Str) (ck : Str) (q1 : Bool) (i : Nat) (I D lI : Addr) (z1 z2 z3 z4 z5 : Obj) (zs : List Value) (m₀ : Str → Option Value) (j : Nat) (m : Str → Option Value) (news : Led) : Prop
  | mk (s2 : RS) (rv2 : List Value) (tc2 : Tok) (er2 : Nat) (h1 : s2 = (xs9.take j).foldl RS.bit ⟨dn, ck, q1⟩) (h2 : s2.q = q1) (h3 : Txts rv2 s2.dn) (h4 : s2.cur.cps.size ≤ 9 * i + 1 + 2 * j) (h5 : s2.dn.length ≤ 2 * i + j) (h6 : Held m₀ [Str.ofString "bit"] [] m)
    (h7 : news = [(I + 4, z1), (I + 2, z2), (I + 3, z3), (I, z4), (I + 1, z5), (D, W.listOf zs.toArray 0), (lI, W.listOf (rv2 ++ [Value.str s2.cur tc2]).toArray er2)])
theorem joinB {M : Model} {A : Around} {t : Sem Flow} {E : Value → Shared → Prop} {s : Shared} {Q : Flow → Shared → Prop} {h₀ : Heap} {L : Addr} {m : Str → Option Value} {news : Led} (x : Str) (C : Bool → Prop) (_F : Fr h₀ L s.heap m) (_N : News h₀ L s.heap news)
    (hw : ∀ Q' : Flow → Shared → Prop, (∀ q1 h' tk', C q1 → Fr h₀ L h' (fun y => if y = x then some (.bool q1) else m y) → News h₀ L h' news → Q' .next { s with heap := h', toks := tk' }) → wpAny M A t Q' E s)
    (hk : ∀ q1 h' tk', C q1 → Fr h₀ L h' (fun y => if y = x then some (.bool q1) else m y) → News h₀ L h' news → Q .next { s with heap := h', toks := tk' }) : wpAny M A t Q E s := hw Q hk
theorem frSame {h₀ h : Heap} {L : Addr} {m : Str → Option Value} {x : Str} {v : Value} (F : Fr h₀ L h m) (hx : m x = some v) : Fr h₀ L h (fun y => if y = x then some v else m y) := by
  have e : (fun y => if y = x then some v else m y) = m := by
    funext y
    by_cases hy : y = x
    · rw [if_pos hy, hy, hx]
    · rw [if_neg hy]
  rw [e]
  exact F
set_option maxHeartbeats 8000000
set_option pp.deepTerms.threshold 5
theorem spec_rea {w : World} {mg mb : Str → Option Value} {p : Program} {loose : List Str} {mean : ExcName → Option Value}
  {dp un : Nat} {gd : Option (List Code)} {cn : Str} {cs : Scope} {a : Addr} {ccd : Value} {cl : List (Str × Addr)} {outer : List Env} {A₀ : Around} {base h₀ : Heap} {L : Addr} {m : Str → Option Value} {s : Shared} {Q E : Value → Shared → Prop}
  {news : Led} {d1 d2 : Addr} {pv mv : List Value} {ps : List (List Str)} {mks : List Str}
  (cx : Cx w p loose mean mg mb A₀ base outer h₀ s.heap L m cs) (N : News h₀ L s.heap news)
  (hd1 : s.heap.IsList d1 pv.toArray) (hp : Pcs s.heap pv ps) (hpb : ∀ xs ∈ ps, xs.length ≤ 2 ∧ ∀ x ∈ xs, BitOk x) (hpl : ps.length ≤ 5)
  (hd2 : s.heap.IsList d2 mv.toArray) (hm : Txts mv mks) (hmk : ∀ x ∈ mks, MarkOk x) (hml : ps.length = mks.length + 1)
  (hdp : dp + 4 < recursionLimit) (hun : un + 100 < cLine)
  (hret : ∀ r vs ep h' tk', Txts vs (RS.run ⟨[], Str.ofString "", false⟩ (Str.ofString "" :: mks) ps).fin → Fr h₀ L h' m → News h₀ L h' ((r, W.listOf vs.toArray ep) :: news) → (∀ q ∈ news, q.1 ≠ r) → Q (.ref r) { s with heap := h', toks := tk' }) :
  wpAny (model PySem.Challenge.pw_pg0162_02 w) (ktrTop dp un gd cn cs L a ccd cl outer) (call (.ref 73) [.ref d1, .ref d2]) Q E s := by
  k_with_none
  k_with "CJ" => (first | exact cj0 (by with_reducible assumption) | exact cj1 (by with_reducible assumption) | exact cj2 (by with_reducible assumption) | exact cj2z (by with_reducible assumption) | exact cj3 (by with_reducible assumption) | exact cj3z (by with_reducible assumption) | exact cj4 (by with_reducible assumption) | exact cj4z (by with_reducible assumption) | exact cj5 (by with_reducible assumption) | exact cj5z (by with_reducible assumption) | exact cj6 (by with_reducible assumption) | exact cj6z (by with_reducible assumption) | exact cj7 (by with_reducible assumption) | exact cj7z (by with_reducible assumption))
  k_with "NE" => ((refine neN ?_; (try dsimp only); first | walk_at "CJ" | exact Ne.symm (by walk_at "CJ") | exact Nat.ne_of_lt (by walk_at "CJ") | exact Nat.ne_of_gt (by walk_at "CJ") | exact neP (by walk_at "CJ") | exact Ne.symm (neP (by walk_at "CJ")) | exact neQ (by decide) | exact neR (by decide) | exact Ne.symm (neR (by decide)) | lia))
  k_with "MEM" => (k_dflt assumption)
  k_with "ALL" => ((refine' TB.off (by assumption) (by k_asm) (by k_mem) (by first | (((intro _ zh9; (repeat (first | exact zh9 | exact List.mem_append_right _ zh9 | refine' List.Mem.tail _ ?_)))); done) | fail) (by first | ((first | (intro _ zh9; cases zh9; done) | (intro _ zh9; simp_all)); done) | fail)))
  k_with "ALL" => (first | assumption | exact ofAllLt (by assumption) | exact ofAllLt (allLt_left (by assumption)) | (refine' forallApp ?_ ?_ <;> k_all))
  k_with "ROOM" => (first | lia | ((try simp only [depth_under_make, depth_under_kw, depth_in1, depth_deeper, depth_caller, recursionLimit, units_in1, units_deeper, Around.mark_units, units_caller, cLine] at *); (try dsimp only [ktrTop] at *); lia))
  k_with "TAILIN" => ((intro _ zh9; (try simp only [List.nil_append] at zh9); (repeat (first | exact zh9 | refine' List.Mem.tail _ ?_))))
  k_with "SUBL" => (((try simp only [List.cons_append, List.nil_append]); (repeat (refine List.forall_mem_cons.mpr ⟨by k_mem, ?_⟩)); first | exact List.forall_mem_nil _ | walk_at "TAILIN"))
  k_with "CX" => (exact ⟨by k_asm, by k_asm, by k_asm, by k_asm, by first | exact rfl | assumption, by assumption, by assumption⟩)
  k_with "APP" => ((repeat (first | exact App.nil | exact App.gen _ _ | apply App.cons)))
  k_with "DIS" => ((repeat (first | exact Dis.nil | assumption | (refine' Dis.cons ?_ ?_; focus (first | assumption | k_all)))))
  k_with "call ref" => ((k_here; k_dflt (refine' spec_d2i (by first | ((walk_at "CX"); done) | fail) (by k_asm) (by assumption) (by first | ((walk_at "APP"); done) | fail) (by first | ((walk_at "DIS"); done) | fail) (by is_list) (by l_ints) (by lia) (by first | ((walk_at "LEN"); done) | fail) (by assumption) (by first | ((walk_at "ROOM"); done) | fail) (by first | ((walk_at "ROOM"); done) | fail) ?_; intro _ _ _ _ _ _ zN9 _; (try simp only [List.cons_append, List.nil_append] at zN9); (try dsimp only); (try k_fold))))
  k_with "call ref" => ((k_here; k_dflt (refine' spec_i2d (by first | ((walk_at "CX"); done) | fail) (by k_asm) (by assumption) (by first | ((walk_at "APP"); done) | fail) (by first | ((walk_at "DIS"); done) | fail) (by lia) (by lia) (by assumption) _ (by assumption) (by lia) (by assumption) (by first | ((walk_at "ROOM"); done) | fail) (by first | ((walk_at "ROOM"); done) | fail) ?_; intro _ _ _ _ _ _ _ _ _ zN9 zhf9 _; (try simp only [List.cons_append, List.nil_append] at zN9); (replace zhf9 := allNe_of zhf9; try simp only [AllNe, and_true] at zhf9); (try dsimp only); (try k_fold))))
  k_with "call ref" => ((k_here; k_dflt (refine' spec_d2n (by first | ((walk_at "CX"); done) | fail) (by k_asm) (by assumption) (by assumption) (by assumption) (by first | ((walk_at "ROOM"); done) | fail) (by first | ((walk_at "ROOM"); done) | fail) ?_; intro _ _ _ _ _ _ _ zhf9; (replace zhf9 := allNe_of zhf9; simp only [AllNe, and_true] at zhf9); (try dsimp only); (try k_fold))))
  k_with "LEN" => (first | lia | ((try simp only [List.length_reverse, List.length_append, List.length_map, List.length_cons, List.length_nil, digs_length]); lia))
  k_with "call builtin:list.append" => ((k_here; k_dflt ((try dsimp only); refine' append_K (by k_asm) (by k_asm) (by k_upd) ?_ (by first | ((first | size_fits | (rw [sizeLine_eq]; simp only [List.size_toArray]; lia)); done) | fail)); intro _ _ zN9; (try simp only [List.push_toArray] at zN9); (try k_sweep)))
  k_with "OFF1" => ((repeat (first | exact List.forall_mem_nil _ | (refine' List.forall_mem_cons.mpr ⟨?_, ?_⟩; focus k_ne) | assumption | exact ofAllLt (by assumption) | k_all)))
  k_with "OFF" => ((refine' offSwap ?_; (repeat (first | exact List.forall_mem_nil _ | (refine' List.forall_mem_cons.mpr ⟨?_, ?_⟩; focus walk_at "OFF1")))))
  k_with "call builtin:list.reverse" => ((k_here; k_dflt ((try dsimp only); refine' kl_reverseU (by k_asm) (by k_asm) (by k_upd) (by exact rev_arr _) (by exact szl (by assumption)) ?_); intro _ _ _; (try k_sweep)))
  k_with "call ref" => ((k_here; k_dflt (refine' spec_dpos (by first | ((walk_at "CX"); done) | fail) (by k_asm) (by assumption) (by first | ((walk_at "APP"); done) | fail) (by first | ((walk_at "DIS"); done) | fail) (by first | ((first | assumption | lia); done) | fail) (by first | ((first | assumption | lia); done) | fail) (by assumption) (by assumption) (by first | ((walk_at "ROOM"); done) | fail) (by first | ((walk_at "ROOM"); done) | fail) ?_; intro _ _ _ _ _ _ _ _ zN9 zhf9 _; (try simp only [List.cons_append, List.nil_append] at zN9); (replace zhf9 := allNe_of zhf9; try simp only [AllNe, and_true] at zhf9); (try dsimp only); (try k_fold))))
  k_with "call ref" => ((k_here; k_dflt (refine' spec_idm (by first | ((walk_at "CX"); done) | fail) (by k_asm) (by assumption) (by first | ((walk_at "APP"); done) | fail) (by first | ((walk_at "DIS"); done) | fail) (by first | ((first | assumption | lia); done) | fail) (by first | ((first | assumption | lia); done) | fail) (by assumption) (by assumption) (by first | ((walk_at "ROOM"); done) | fail) (by first | ((walk_at "ROOM"); done) | fail) ?_; intro _ _ _ _ _ _ _ _ zN9 zhf9 _; (try simp only [List.cons_append, List.nil_append] at zN9); (replace zhf9 := allNe_of zhf9; try simp only [AllNe, and_true] at zhf9); (try dsimp only); (try k_fold))))
  k_with "call type:list" => ((k_here; k_dflt (refine' list_revK (by exact rfl) (by k_asm) (by k_asm) (by first | ((first | k_all | fail); done) | fail) (by is_list) (by l_ints) (by first | ((walk_at "LEN"); done) | fail) ?_; intro _ _ _ _ _ _ _ _ _; (try k_sweep))))
  k_with "call builtin:len" => ((k_here; k_dflt (refine' len_ints (by is_list) (by l_ints) (by first | ((first | exact digs_length _ _ _ | exact rfl); done) | fail) (by lia) ?_; (try dsimp only))))
  k_with "SUMLEN" => (((try simp only [digs_length, List.length_append, List.length_reverse, List.length_map]); (simp only [sizeLine_eq]); first | lia | (rename_i e2' e3'; simp_all; lia)))
  k_with "binaryOp Add ref ref" => ((k_here; (with_reducible show wpAny _ _ (binaryOp _ (Value.ref _) (Value.ref _)) _ _ _); k_dflt ((try dsimp only); refine' kmk_add_ints (by k_asm) (by k_asm) (by kmk_list) (by kmk_list) (by l_ints) (by l_ints) ?_ (by first | ((first | walk_at "SUMLEN" | fail); done) | fail)); intro _ _ _ _ _ zl1 _; (try k_lt zl1); (try k_sweep)))
  k_with "TAILIN1" => ((repeat (first | assumption | refine' List.Mem.tail _ ?_)))
  k_with "MEMU" => ((repeat (first | exact List.mem_append_left _ (by assumption) | refine' List.Mem.tail _ ?_)))
  k_with "exec For Tuple Call cons nil" => ((k_here; (with_unfolding_all refine' For_turns (by with_reducible assumption) ?_ (fun _ => rfl) PassesOwn.never)))
  k_with "exec For Name Name cons nil" => ((k_here; (with_unfolding_all refine' For_turns (by with_reducible assumption) ?_ (fun _ => rfl) PassesOwn.never)))
  k_with "call type:zip" => ((refine' stopHere ?_))
  k_with "pyIter ref" => ((refine' stopHere ?_))
  k_with "exec If" => (((with_reducible show wpAny _ _ (exec (Stmt.If _ _ [] _) _) _ _ _); refine' stopHere ?_))
  k_with "binaryOp Add ref ref" => ((k_here; (with_reducible show wpAny _ _ (binaryOp _ (Value.ref _) (Value.ref _)) _ _ _); k_dflt ((try dsimp only); refine' add_txts (vs := [Value.str _ _]) (by k_asm) (by k_asm) (by kmk_list) (by kmk_list) (by exact .cons _ _ .nil) (by assumption) ?_ (by first | (((rw [sizeLine_eq]; simp only [List.length_cons, List.length_nil]; lia)); done) | fail)); intro _ _ _ _ _ _ zl1; (try k_lt zl1); (try k_sweep)))
  k_with "call builtin:list.append" => ((k_here; k_dflt ((try dsimp only); refine' append_K (by k_asm) (by k_asm) (by k_upd) ?_ (by first | (((rw [sizeLine_eq]; simp only [List.size_toArray, List.length_append, List.length_singleton, List.length_cons, List.length_nil]; lia)); done) | fail)); intro _ _ zN9; (try simp only [List.push_toArray] at zN9); (try k_sweep)))
  k_with "subscriptTail" => ((k_here; k_dflt (refine' kim_back (l := _ ++ [_]) (by k_asm) (by k_mem) (by exact rfl) (by exact rfl) (by decide) (by first | ((first | (simp only [List.length_append, List.length_singleton]; lia) | (simp; lia)); done) | fail) (by decide) (by exact last_get _ _) ?_)))
  k_with "truthy" => ((k_here; dsimp only; k_dflt (refine SBL.truthy (by show ((Array.size _ : Nat) : Int) < _; lia) ?_)))
  k_with "getItem ref int" => ((k_here; k_dflt (refine' getLastK (by k_asm) (by k_mem) ?_)))
  k_with "setItem ref int" => ((k_here; k_dflt (refine' setLastK (by k_asm) (by k_asm) (by k_upd) ?_); intro _ _ _; (try k_sweep)))
  k_with "STRLEN" => (first | assumption | (rw [sizeLine_eq]; show Array.size _ + Array.size _ ≤ _; first | lia | (show _ + 1 ≤ _; lia) | (show _ + 2 ≤ _; lia) | (show _ + 0 ≤ _; lia)))
  k_with "inplaceOp" => ((k_here; k_dflt ((try dsimp only); refine' PyProof.Rows.iadd_str ?_ (by first | ((walk_at "STRLEN"); done) | fail); intro _ _; (try dsimp only))))
  w_on
  w_top on
  obtain ⟨B, F, X, T, hk, CA, CB⟩ := cx
  have hdp' : dp + 4 < 1000 := hdp
  have hun' : un + 100 < 9900 := hun
  have hgb : GotBack NoT h₀ L m news s (fun v new => ∃ r vs ep, Txts vs (RS.run ⟨[], Str.ofString "", false⟩ (Str.ofString "" :: mks) ps).fin ∧ v = .ref r ∧ new = [(r, W.listOf vs.toArray ep)]) Q := by
    rintro _ _ t' h' tk' rfl ⟨r, vs, ep, hv, rfl, rfl⟩ F' N' dn dt
    rw [List.append_nil] at N'
    exact hret r vs ep h' tk' hv F' N' fun q hq => dn q hq _ (.head _)
  clear hret
  have N0 : News h₀ L s.heap (news ++ []) := by rw [List.append_nil]; exact N
  have hown : Dis news [] := fun _ _ _ h => nomatch h
  first | k_dflt ((
        refine' enterP ?k1 ?k2 ?k3 ?k4 ?k5 ?k6 ?kA ?kF ?kK ?k7 ?kd ?k8 ?k9 ?kb ?kB ?kr ?_ ?kc ?c2 ?c3 ?c4
        (case kr => assumption); (case kA => exact rfl); (case kF => exact rfl); (case kK => assumption)
        (case k1 => k_asm); (case k2 => k_asm); (case k3 => k_asm); (case k4 => k_asm); (case k5 => k_asm); (case k6 => assumption)
        (case k7 => k_is); (case kd => exact rfl); (case k8 => k_is); (case k9 => walk_at "ROOM"); (case kb => exact BindsTo.of_eq rfl); (case kB => exact locs rfl); (case kc => decide); (case c2 => exact rfl); (case c3 => exact rfl); (case c4 => exact rfl))) | fail
  intro g' L' h' hkg F' N' B' X' T' l1
  refine holdQ ?_
  intro QR hQR
  have hd1' := listIn0 hkg hd1
  have hd2' := listIn0 hkg hd2
  have hp' := hp.mono (keep0 hkg)
  clear hkg hgb N0 N F B X T hown l1 hd1 hd2 hp
  have hmvl := hm.length
  (try dsimp only)
  (try k_fold)
  k_steps
  rename_i lI z1 z2 DT z3 z4 z5 z6 z7 lE z8 lt8 D zs z9 hz F0 N0
  refine' Stop.go ?_
  have N1 := newsSub (l' := [(D, W.listOf zs.toArray 0), (lI, W.listOf (([] : List Value) ++ [Value.str (Str.ofString "") _]).toArray 0)]) N0 (fun p hp => by
    rcases List.mem_cons.mp hp with rfl | hp
    · exact .head _
    · rw [List.mem_singleton.mp hp]; exact .tail _ (.tail _ (.tail _ (.head _))))
  clear N0
  have ltD : @LT.lt Nat _ lI D := zl1.2.2
  have hdg : g'.IsList d1 pv.toArray := hd1'
  obtain ⟨o1, ho1, _⟩ := hdg
  have hzl : zs.length = mks.length + 1 := by rw [hz.length]; simp
  have hpvl := hp'.length
  clear lt8 zl1 z2 z4 hd2'
  k_dflt refine' zipG_turns (x := .lst D zs.toArray) (r := [.lst d1 pv.toArray]) (keep := [(D, W.listOf zs.toArray 0)]) ?hh rfl ?hct ?hcn ?hok ?F ?N ?hkp ?ok ?small ?hn ?hfp (fun m₀ i m news => ReaO ps mks D lI zs m₀ i m news) ?start ?step ?done
  case hh => exact rfl
  case F => k_asm
  case N => k_asm
  case hkp => exact fun p hp => by rw [List.mem_singleton.mp hp]; exact .head _
  case hct => kernel_rfl
  case hcn => kernel_rfl
  case hok => intro obj; exact PySem.F.args_object_init_3 obj _ _
  case ok => refine List.forall_mem_cons.mpr ⟨?_, List.forall_mem_cons.mpr ⟨?_, List.forall_mem_nil _⟩⟩ <;> k_dflt is_list
  case small => simp
  case hn =>
    refine List.forall_mem_cons.mpr ⟨Nat.le_refl _, List.forall_mem_cons.mpr ⟨?_, List.forall_mem_nil _⟩⟩
    show Array.size _ ≤ Array.size _; simp; lia
  case hfp =>
    refine List.forall_mem_cons.mpr ⟨?_, List.forall_mem_cons.mpr ⟨?_, List.forall_mem_nil _⟩⟩ <;> (intro b hb; rw [List.mem_singleton.mp hb])
    · exact .inl ⟨_, .head _⟩
    · exact .inr ⟨_, ho1⟩
  case start =>
    refine' ⟨_, [], _, 0, rfl, .nil, Nat.le_refl _, Nat.le_refl _, ⟨?h1, fun _ _ _ => rfl⟩, rfl⟩
    case h1 => exact fun p hp => by rw [List.mem_singleton.mp hp]; exact rfl
  case step =>
    intro I lI9 i m9 news9 T9 vals hi9 hdr hz0 H tk hTup F9
    refine hide ?_
    intro Z hZ
    obtain ⟨st, rv, tc, er, hst, hT, hcz, hdl, hH, rfl⟩ := hz0
    cases hdr with
    | cons hkS hdr =>
    cases hdr with
    | cons hpS hdr =>
    cases hdr
    obtain ⟨k, tk9, hk9, rfl⟩ := hz.get (by simpa [Src.P] using hkS)
    obtain ⟨a9, vs9, xs9, hx9, rfl, hl9, ht9⟩ := hp'.get (by simpa [Src.P] using hpS)
    obtain ⟨hxl, hxb⟩ := hpb xs9 (List.mem_of_getElem? hx9)
    refine hZ ?_
    clear hZ Z
    clear hkS hpS
    have hi9 : i < zs.toArray.size := hi9
    rw [List.size_toArray] at hi9
    have hk1 : k.cps.size ≤ 1 := by
      rcases List.mem_append.mp (List.mem_of_getElem? hk9) with h | h
      · rw [List.mem_singleton.mp h]; decide
      · rcases hmk k h with rfl | rfl <;> decide
    have hsn : RS.to ⟨[], Str.ofString "", false⟩ (Str.ofString "" :: mks) ps (i + 1) = st.piece k xs9 := by
      have e1 : (Str.ofString "" :: mks)[i]? = some k := hk9
      simp only [RS.to, List.getD_eq_getElem?_getD, e1, hx9, Option.getD_some, hst]
    have F9 := hH.fr F9
    obtain ⟨dn, cur, q⟩ := st
    dsimp only at hT hcz hdl F9
    rw [zws2]
    refine AllObj.cons fun z1 hz1 => AllObj.cons fun z2 hz2 => AllObj.cons fun z3 hz3 => AllObj.cons fun z4 hz4 => AllObj.cons fun z5 hz5 => AllObj.nil ?_
    intro N9
    simp only [List.cons_append, List.nil_append] at N9
    refine holdT ?_
    intro QT hQT
    have hlt1 : @LT.lt Nat _ D I := lI9 _ (.head _)
    have hlt2 : @LT.lt Nat _ lI I := lI9 (lI, _) (.tail _ (.head _))
    clear lI9
    (try dsimp only)
    (try k_fold)
    k_steps
    refine' Stop.go ?_
    rename Fr _ _ _ _ => Fc
    rename News _ _ _ _ => Nc
    refine' joinB (Str.ofString "quoted") (fun b => RS.to ⟨[], Str.ofString "", false⟩ (Str.ofString "" :: mks) ps (i + 1) = xs9.foldl RS.bit ⟨dn, cur ++ k, b⟩) Fc Nc ?_ ?_
    · intro QK hQK
      refine wpAny_If ?_
      k_steps
      · refine hQK _ _ _ ?_ (by k_asm) (by k_asm)
        rw [hsn]
        show List.foldl _ (RS.mark _ _) _ = _
        simp only [RS.mark, (by assumption : (k == Str.ofString "\"") = true), if_true]
      · refine hQK _ _ _ ?_ (frSame (by k_asm) (by first | k_is | with_unfolding_all rfl)) (by k_asm)
        rw [hsn]
        show List.foldl _ (RS.mark _ _) _ = _
        simp only [RS.mark, (by assumption : (k == Str.ofString "\"") = false), if_false, Bool.false_eq_true]
    · clear hsn Fc Nc
      intro q1 h9 tk9 hsm F9 N9
      (try dsimp only)
      (try k_fold)
      k_steps
      ((
            refine' Stop.go ?_
            rename Fr _ _ _ _ => Fi
            rename News _ _ _ _ => Ni
            have hlg : g'.IsList a9 vs9.toArray := hl9
            obtain ⟨o9, ho9, _⟩ := hlg
            have hck : (cur ++ k).cps.size ≤ 9 * i + 1 := (by (show (cur.cps ++ k.cps).size ≤ _); (rw [Array.size_append]); lia)
            k_dflt refine' iter_lstTurns (vs := vs9) (keep := []) ?ihh ?iF ?iN (fun _ h => nomatch h) ?ihl (.inr ⟨_, ho9⟩) (fun m₀ j m news => ReaI xs9 dn (cur ++ k) q1 i I D lI z1 z2 z3 z4 z5 zs m₀ j m news) ?istart ?istep ?idone
            (case ihh => exact rfl)
            (case iF => k_asm)
            (case iN => k_asm)
            (case ihl => k_dflt is_list)
            (case istart => exact ⟨_, _, _, _, rfl, rfl, hT, (by show (cur ++ k).cps.size ≤ 9 * i + 1 + 2 * 0; lia), (by show dn.length ≤ 2 * i + 0; lia), ⟨(fun _ h => nomatch h), (fun _ _ _ => rfl)⟩, rfl⟩)
            (case istep =>
              intro J9 lJ j m8 news8 v8 hv8 hz0 H8 tk8 F8
              refine hide ?_
              intro Z hZ
              obtain ⟨s2, rv2, tc2, er2, hs2, hq2, hT2, hc2, hd2, hH2, rfl⟩ := hz0
              obtain ⟨x8, t8, hx8, rfl⟩ := ht9.get hv8
              have hb8 := hxb x8 (List.mem_of_getElem? hx8)
              refine hZ ?_
              clear hZ Z
              have F8 := hH2.fr F8
              have j0 : @LT.lt Nat _ (I + 4) J9 := lJ _ (.head _)
              have j1 : @LT.lt Nat _ (I + 2) J9 := lJ _ (.tail _ (.head _))
              have j2 : @LT.lt Nat _ (I + 3) J9 := lJ _ (.tail _ (.tail _ (.head _)))
              have j3 : @LT.lt Nat _ I J9 := lJ _ (.tail _ (.tail _ (.tail _ (.head _))))
              have j4 : @LT.lt Nat _ (I + 1) J9 := lJ _ (.tail _ (.tail _ (.tail _ (.tail _ (.head _)))))
              have j5 : @LT.lt Nat _ D J9 := lJ _ (.tail _ (.tail _ (.tail _ (.tail _ (.tail _ (.head _))))))
              have j6 : @LT.lt Nat _ lI J9 := lJ (lI, _) (.tail _ (.tail _ (.tail _ (.tail _ (.tail _ (.tail _ (.head _)))))))
              clear lJ
              have hj2 : j < 2 := (by (have := (List.getElem?_eq_some_iff.mp hx8).1); lia)
              have hrl2 : rv2.length ≤ 64 := (by rw [hT2.length]; lia)
              have hs3 : (xs9.take (j + 1)).foldl RS.bit ⟨dn, cur ++ k, q1⟩ = s2.bit x8 := (by (rw [List.take_add_one, hx8, List.foldl_append, hs2]); rfl)
              obtain ⟨dn2, cur2, q2⟩ := s2
              dsimp only at hq2 hT2 hc2 hd2 F8
              subst hq2
              refine AllObj.cons (w := (_, _)) fun it8 hit8 => AllObj.nil ?_
              intro N8
              simp only [List.cons_append, List.nil_append] at N8
              refine holdT ?_
              intro QT hQT
              cases q2
              · rcases hb8 with rfl | rfl | rfl | rfl
                all_goals (
                  (try dsimp only)
                  (try k_fold)
                  k_steps
                  ((
                        refine' hQT _ _ ?_
                        refine' TurnP.next ?F ?N [(I + 4, z1), (I + 2, z2), (I + 3, z3), (I, z4), (I + 1, z5), (D, _), (lI, _)] ?hs ?off ?r
                        (case F => k_asm)
                        (case N => k_asm)
                        (case hs => first | walk_at "SUBL" | fail)
                        (case off => first | walk_at "OFF" | fail)
                        (case r =>
                          refine' ⟨(fun _ h => nomatch h), ⟨_, _, _⟩, _, _, _, ?eq, ?q, ?hT, ?c, ?d, ⟨(fun _ h => nomatch h), ?h2⟩, rfl⟩
                          (case hT => first | exact hT2 | exact hT2.append1 _ _)
                          (case q => exact rfl)
                          (case eq => rw [hs3]; exact rfl)
                          (case c => first | exact Nat.zero_le _ | (show Array.size (_ ++ _) ≤ _; rw [Array.size_append]; first | (show _ + 1 ≤ _; lia) | (show _ + 2 ≤ _; lia) | (show _ + 0 ≤ _; lia) | (have hz9 := lastS_size hb8; show cur2.cps.size + (lastS x8).cps.size ≤ _; lia)))
                          (case d => first | exact Nat.le_succ_of_le hd2 | (rw [List.length_append]; exact Nat.succ_le_succ hd2))
                          (case h2 => intro z g1 g2; have a1 := notIn g2 _ (.head _); (repeat (first | with_reducible exact rfl | with_reducible refine stIf (by assumption) ?_ | with_reducible refine stCons (by assumption) ?_ | with_reducible refine stNil ?_ | with_reducible refine stCon (by assumption) ?_)))))))
              · have hx1 : 1 ≤ x8.length := (bit_len hb8).1
                have hx2 : x8.length ≤ 2 := (bit_len hb8).2
                (try dsimp only)
                (try k_fold)
                k_steps
                ((
                      refine' hQT _ _ ?_
                      refine' TurnP.next ?F ?N [(I + 4, z1), (I + 2, z2), (I + 3, z3), (I, z4), (I + 1, z5), (D, _), (lI, _)] ?hs ?off ?r
                      (case F => k_asm)
                      (case N => k_asm)
                      (case hs => first | walk_at "SUBL" | fail)
                      (case off => first | walk_at "OFF" | fail)
                      (case r =>
                        refine' ⟨(fun _ h => nomatch h), ⟨_, _, _⟩, _, _, _, ?eq, ?q, ?hT, ?c, ?d, ⟨(fun _ h => nomatch h), ?h2⟩, rfl⟩
                        (case hT => first | exact hT2 | exact hT2.append1 _ _)
                        (case q => exact rfl)
                        (case eq => rw [hs3]; exact rfl)
                        (case c => first | exact Nat.zero_le _ | (show Array.size (_ ++ _) ≤ _; rw [Array.size_append]; first | (show _ + 1 ≤ _; lia) | (show _ + 2 ≤ _; lia) | (show _ + 0 ≤ _; lia) | (have hz9 := lastS_size hb8; show cur2.cps.size + (lastS x8).cps.size ≤ _; lia)))
                        (case d => first | exact Nat.le_succ_of_le hd2 | (rw [List.length_append]; exact Nat.succ_le_succ hd2))
                        (case h2 => intro z g1 g2; have a1 := notIn g2 _ (.head _); (repeat (first | with_reducible exact rfl | with_reducible refine stIf (by assumption) ?_ | with_reducible refine stCons (by assumption) ?_ | with_reducible refine stNil ?_ | with_reducible refine stCon (by assumption) ?_)))))))
            (case idone =>
              intro m8 news8 hz0 H8 tk8 F8 N8
              refine hide ?_
              intro Z hZ
              obtain ⟨s2, rv2, tc2, er2, hs2, hq2, hT2, hc2, hd2, hH2, rfl⟩ := hz0
              refine hZ ?_
              clear hZ Z
              have F8 := hH2.fr F8
              rw [ht9.length, List.take_length] at hs2
              rw [ht9.length] at hc2 hd2
              obtain ⟨dn2, cur2, q2⟩ := s2
              dsimp only at hq2 hT2 hc2 hd2 F8
              subst hq2
              (try dsimp only)
              (try k_fold)
              k_steps
              refine' hQT _ _ ?_
              refine' TurnP.next ?F ?N [(D, _), (lI, _)] ?hs ?off ?r
              (case F => k_asm)
              (case N => k_asm)
              (case hs => first | walk_at "SUBL" | fail)
              (case off => first | walk_at "OFF" | fail)
              (case r =>
                refine' ⟨(fun p hp => by rw [List.mem_singleton.mp hp]; exact .head _), ⟨dn2, cur2, q2⟩, rv2, tc2, er2, ?eq, hT2, ?c, ?d, ⟨?h1, ?h2⟩, rfl⟩
                (case eq => rw [hsm]; exact hs2)
                (case c => (show cur2.cps.size ≤ _; lia))
                (case d => (show dn2.length ≤ _; lia))
                (case h1 => exact fun p hp => by rw [List.mem_singleton.mp hp]; exact rfl)
                (case h2 =>
                  intro z g1 g2
                  have a1 := g1 _ (.head _)
                  have a2 := notIn g2 _ (.head _)
                  have a3 := notIn g2 _ (.tail _ (.head _))
                  have a4 := notIn g2 _ (.tail _ (.tail _ (.head _)))
                  have g3 : [Str.ofString "bit"].contains z = false := (by simp [a4])
                  (repeat (first | with_reducible exact rfl | with_reducible refine stIf (by assumption) ?_ | with_reducible refine stCons (by assumption) ?_ | with_reducible refine stNil ?_ | with_reducible refine stCon (by assumption) ?_)))))))
  case done =>
    intro m9 news9 hz0 H tk F9 N9
    refine hide ?_
    intro Z hZ
    obtain ⟨st, rv, tc, er, hst, hT, hcz, hdl, hH, rfl⟩ := hz0
    refine hZ ?_
    clear hZ Z
    have F9 := hH.fr F9
    have hfull : RS.run ⟨[], Str.ofString "", false⟩ (Str.ofString "" :: mks) ps = st := by
      rw [hst, ← rs_end _ _ _ (by rw [List.length_cons, hml])]
      show _ = RS.to _ _ _ zs.toArray.size
      rw [List.size_toArray, hzl, List.length_cons]
    rw [hfull] at hQR
    have hcz : st.cur.cps.size ≤ 9 * zs.toArray.size := hcz
    have hdl : st.dn.length ≤ 2 * zs.toArray.size := hdl
    have hzn : zs.toArray.size = mks.length + 1 := by rw [List.size_toArray, hzl]
    rw [hzn] at hcz hdl
    have hrl : rv.length ≤ 64 := by rw [hT.length]; lia
    clear hst hfull
    obtain ⟨dn, cur, q⟩ := st
    dsimp only at hT hcz hdl F9
    (try dsimp only)
    (try k_fold)
    k_steps
    · have hemp : ¬ cur.cps.size = 0 := by
        rename (¬ (_ = _)) => hq
        intro e
        exact hq (by show ((cur.cps.size : Nat) : Int) = 0; rw [e]; rfl)
      have e8 : RS.fin ⟨dn, cur, q⟩ = dn ++ [cur] := if_neg hemp
      exact hQR _ _ <| Ret.intro (t' := []) [(_, _)] rfl (by k_asm) (by k_asm) (by first | walk_at "SUBL" | fail) ⟨_, _, _, by rw [e8]; exact hT.append1 _ _, rfl, rfl⟩
    · have hemp : cur.cps.size = 0 := by
        rename (_ = (0 : Int)) => hq
        have hq' : ((cur.cps.size : Nat) : Int) = 0 := hq
        lia
      have e8 : RS.fin ⟨dn, cur, q⟩ = dn := if_pos hemp
      rename News _ _ _ _ => NX
      rw [sliceInit] at NX
      exact hQR _ _ <| Ret.intro (t' := []) [(_, _)] rfl (by k_asm) NX (by first | walk_at "SUBL" | fail) ⟨_, rv, 0, by rw [e8]; exact hT, rfl, rfl⟩

set_option maxHeartbeats 8000000
set_option pp.deepTerms.threshold 5
theorem join_sz (xs : List Str) : (joinS xs).length = (xs.map (·.length)).sum := by
  show (joinS xs).cps.size = _
  rw [← Array.length_toList]
  show (Txt.join _ xs).cps.toList.length = _
  rw [join_toList, List.length_flatMap]
  rfl
theorem rowsOf_succ (ps : List (List Str)) (cnt i : Nat) : rowsOf ps cnt (i + 1) = rowsOf ps cnt i ++ [rowOf ps cnt i] := by
  unfold rowsOf
  rw [List.range_succ, List.map_append]; rfl
theorem mkT {i k : Nat} {e : Int} (h : ((i : Int).fdiv (2 ^ e.toNat)).fmod 2 ≠ 0) (he : e = (k : Int)) : Str.ofString "\"" = mkAt i k := by
  subst he; rw [Int.toNat_natCast] at h; exact (if_neg h).symm
theorem mkF {i k : Nat} {e : Int} (h : ((i : Int).fdiv (2 ^ e.toNat)).fmod 2 = 0) (he : e = (k : Int)) : Str.ofString "'" = mkAt i k := by
  subst he; rw [Int.toNat_natCast] at h; exact (if_pos h).symm
/- the rows so far -/
inductive RowI (ps : List (List Str)) (cnt : Nat) (lR c2 c1 : Addr) (m₀ : Str → Option Value) (i : Nat) (m : Str → Option Value) (news : Led) : Prop
  | mk (rv : List Value) (er : Nat) (fl : Led) (oM oS : Obj) (vM vS : Option Value) (h1 : oM.data = Data.cell vM) (h2 : oS.data = Data.cell vS) (h3 : Rws fl rv (rowsOf ps cnt i)) (h4 : Held m₀ [Str.ofString "text", Str.ofString "told"] [] m)
    (h5 : ∀ p ∈ fl, p.1 ≠ lR) (h6 : ∀ p ∈ fl, p.1 ≠ c2) (h7 : ∀ p ∈ fl, p.1 ≠ c1) (h8 : ∀ p ∈ fl, p.2.cls = .type "list" ∨ p.2.cls = .type "tuple") (h9 : news = (lR, W.listOf rv.toArray er) :: (c2, oM) :: (c1, oS) :: fl)
theorem spec_row {w : World} {mg mb : Str → Option Value} {p : Program} {loose : List Str} {mean : ExcName → Option Value}
  {dp un : Nat} {gd : Option (List Code)} {cn : Str} {cs : Scope} {a : Addr} {ccd : Value} {cl : List (Str × Addr)} {outer : List Env} {A₀ : Around} {base h₀ : Heap} {L : Addr} {m : Str → Option Value} {s : Shared} {Q E : Value → Shared → Prop}
  {news : Led} {d : Addr} {pv : List Value} {ps : List (List Str)} {cnt : Nat} {tc : Tok}
  (cx : Cx w p loose mean mg mb A₀ base outer h₀ s.heap L m cs) (N : News h₀ L s.heap news)
  (hd : s.heap.IsList d pv.toArray) (hp : Pcs s.heap pv ps) (hpb : ∀ xs ∈ ps, xs.length ≤ 2 ∧ ∀ x ∈ xs, BitOk x) (hc1 : cnt ≤ 4) (hpl : ps.length = cnt + 1)
  (hdp : dp + 10 < recursionLimit) (hun : un + 300 < cLine)
  (hret : ∀ r vs ep own h' tk', Rws own vs (rowsOf ps cnt (2 ^ cnt)) → Fr h₀ L h' m → News h₀ L h' ((r, W.listOf vs.toArray ep) :: (own ++ news)) → (∀ q ∈ news, q.1 ≠ r) → (∀ q ∈ news, ∀ o ∈ own, q.1 ≠ o.1) → (∀ o ∈ own, o.1 ≠ r) → Q (.ref r) { s with heap := h', toks := tk' }) :
  wpAny (model PySem.Challenge.pw_pg0162_02 w) (ktrTop dp un gd cn cs L a ccd cl outer) (call (.ref 78) [.ref d, .int (cnt : Int) tc]) Q E s := by
  k_with_none
  k_with "CJ" => (first | exact cj0 (by with_reducible assumption) | exact cj1 (by with_reducible assumption) | exact cj2 (by with_reducible assumption) | exact cj2z (by with_reducible assumption) | exact cj3 (by with_reducible assumption) | exact cj3z (by with_reducible assumption) | exact cj4 (by with_reducible assumption) | exact cj4z (by with_reducible assumption) | exact cj5 (by with_reducible assumption) | exact cj5z (by with_reducible assumption) | exact cj6 (by with_reducible assumption) | exact cj6z (by with_reducible assumption) | exact cj7 (by with_reducible assumption) | exact cj7z (by with_reducible assumption))
  k_with "NE" => ((refine neN ?_; (try dsimp only); first | walk_at "CJ" | exact Ne.symm (by walk_at "CJ") | exact Nat.ne_of_lt (by walk_at "CJ") | exact Nat.ne_of_gt (by walk_at "CJ") | exact neP (by walk_at "CJ") | exact Ne.symm (neP (by walk_at "CJ")) | exact neQ (by decide) | exact neR (by decide) | exact Ne.symm (neR (by decide)) | lia))
  k_with "MEM" => (k_dflt assumption)
  k_with "ALL" => ((refine' TB.off (by assumption) (by k_asm) (by k_mem) (by first | (((intro _ zh9; (repeat (first | exact zh9 | exact List.mem_append_right _ zh9 | refine' List.Mem.tail _ ?_)))); done) | fail) (by first | ((first | (intro _ zh9; cases zh9; done) | (intro _ zh9; simp_all)); done) | fail)))
  k_with "ALL" => (first | assumption | exact ofAllLt (by assumption) | exact ofAllLt (allLt_left (by assumption)) | (refine' forallApp ?_ ?_ <;> k_all))
  k_with "ROOM" => (first | lia | ((try simp only [depth_under_make, depth_under_kw, depth_in1, depth_deeper, depth_caller, recursionLimit, units_in1, units_deeper, Around.mark_units, units_caller, cLine] at *); (try dsimp only [ktrTop] at *); lia))
  k_with "TAILIN" => ((intro _ zh9; (try simp only [List.nil_append] at zh9); (repeat (first | exact zh9 | refine' List.Mem.tail _ ?_))))
  k_with "SUBL" => (((try simp only [List.cons_append, List.nil_append]); (repeat (refine List.forall_mem_cons.mpr ⟨by k_mem, ?_⟩)); first | exact List.forall_mem_nil _ | walk_at "TAILIN"))
  k_with "CX" => (exact ⟨by k_asm, by k_asm, by k_asm, by k_asm, by first | exact rfl | assumption, by assumption, by assumption⟩)
  k_with "APP" => ((repeat (first | exact App.nil | exact App.gen _ _ | apply App.cons)))
  k_with "DIS" => ((repeat (first | exact Dis.nil | assumption | (refine' Dis.cons ?_ ?_; focus (first | assumption | k_all)))))
  k_with "call ref" => ((k_here; k_dflt (refine' spec_d2i (by first | ((walk_at "CX"); done) | fail) (by k_asm) (by assumption) (by first | ((walk_at "APP"); done) | fail) (by first | ((walk_at "DIS"); done) | fail) (by is_list) (by l_ints) (by lia) (by first | ((walk_at "LEN"); done) | fail) (by assumption) (by first | ((walk_at "ROOM"); done) | fail) (by first | ((walk_at "ROOM"); done) | fail) ?_; intro _ _ _ _ _ _ zN9 _; (try simp only [List.cons_append, List.nil_append] at zN9); (try dsimp only); (try k_fold))))
  k_with "call ref" => ((k_here; k_dflt (refine' spec_i2d (by first | ((walk_at "CX"); done) | fail) (by k_asm) (by assumption) (by first | ((walk_at "APP"); done) | fail) (by first | ((walk_at "DIS"); done) | fail) (by lia) (by lia) (by assumption) _ (by assumption) (by lia) (by assumption) (by first | ((walk_at "ROOM"); done) | fail) (by first | ((walk_at "ROOM"); done) | fail) ?_; intro _ _ _ _ _ _ _ _ _ zN9 zhf9 _; (try simp only [List.cons_append, List.nil_append] at zN9); (replace zhf9 := allNe_of zhf9; try simp only [AllNe, and_true] at zhf9); (try dsimp only); (try k_fold))))
  k_with "call ref" => ((k_here; k_dflt (refine' spec_d2n (by first | ((walk_at "CX"); done) | fail) (by k_asm) (by assumption) (by assumption) (by assumption) (by first | ((walk_at "ROOM"); done) | fail) (by first | ((walk_at "ROOM"); done) | fail) ?_; intro _ _ _ _ _ _ _ zhf9; (replace zhf9 := allNe_of zhf9; simp only [AllNe, and_true] at zhf9); (try dsimp only); (try k_fold))))
  k_with "LEN" => (first | lia | ((try simp only [List.length_reverse, List.length_append, List.length_map, List.length_cons, List.length_nil, digs_length]); lia))
  k_with "call builtin:list.append" => ((k_here; k_dflt ((try dsimp only); refine' append_K (by k_asm) (by k_asm) (by k_upd) ?_ (by first | ((first | size_fits | (rw [sizeLine_eq]; simp only [List.size_toArray]; lia)); done) | fail)); intro _ _ zN9; (try simp only [List.push_toArray] at zN9); (try k_sweep)))
  k_with "OFF1" => ((repeat (first | exact List.forall_mem_nil _ | (refine' List.forall_mem_cons.mpr ⟨?_, ?_⟩; focus k_ne) | assumption | exact ofAllLt (by assumption) | k_all)))
  k_with "OFF" => ((refine' offSwap ?_; (repeat (first | exact List.forall_mem_nil _ | (refine' List.forall_mem_cons.mpr ⟨?_, ?_⟩; focus walk_at "OFF1")))))
  k_with "call builtin:list.reverse" => ((k_here; k_dflt ((try dsimp only); refine' kl_reverseU (by k_asm) (by k_asm) (by k_upd) (by exact rev_arr _) (by exact szl (by assumption)) ?_); intro _ _ _; (try k_sweep)))
  k_with "call ref" => ((k_here; k_dflt (refine' spec_dpos (by first | ((walk_at "CX"); done) | fail) (by k_asm) (by assumption) (by first | ((walk_at "APP"); done) | fail) (by first | ((walk_at "DIS"); done) | fail) (by first | ((first | assumption | lia); done) | fail) (by first | ((first | assumption | lia); done) | fail) (by assumption) (by assumption) (by first | ((walk_at "ROOM"); done) | fail) (by first | ((walk_at "ROOM"); done) | fail) ?_; intro _ _ _ _ _ _ _ _ zN9 zhf9 _; (try simp only [List.cons_append, List.nil_append] at zN9); (replace zhf9 := allNe_of zhf9; try simp only [AllNe, and_true] at zhf9); (try dsimp only); (try k_fold))))
  k_with "call ref" => ((k_here; k_dflt (refine' spec_idm (by first | ((walk_at "CX"); done) | fail) (by k_asm) (by assumption) (by first | ((walk_at "APP"); done) | fail) (by first | ((walk_at "DIS"); done) | fail) (by first | ((first | assumption | lia); done) | fail) (by first | ((first | assumption | lia); done) | fail) (by assumption) (by assumption) (by first | ((walk_at "ROOM"); done) | fail) (by first | ((walk_at "ROOM"); done) | fail) ?_; intro _ _ _ _ _ _ _ _ zN9 zhf9 _; (try simp only [List.cons_append, List.nil_append] at zN9); (replace zhf9 := allNe_of zhf9; try simp only [AllNe, and_true] at zhf9); (try dsimp only); (try k_fold))))
  k_with "call type:list" => ((k_here; k_dflt (refine' list_revK (by exact rfl) (by k_asm) (by k_asm) (by first | ((first | k_all | fail); done) | fail) (by is_list) (by l_ints) (by first | ((walk_at "LEN"); done) | fail) ?_; intro _ _ _ _ _ _ _ _ _; (try k_sweep))))
  k_with "call builtin:len" => ((k_here; k_dflt (refine' len_ints (by is_list) (by l_ints) (by first | ((first | exact digs_length _ _ _ | exact rfl); done) | fail) (by lia) ?_; (try dsimp only))))
  k_with "SUMLEN" => (((try simp only [digs_length, List.length_append, List.length_reverse, List.length_map]); (simp only [sizeLine_eq]); first | lia | (rename_i e2' e3'; simp_all; lia)))
  k_with "binaryOp Add ref ref" => ((k_here; (with_reducible show wpAny _ _ (binaryOp _ (Value.ref _) (Value.ref _)) _ _ _); k_dflt ((try dsimp only); refine' kmk_add_ints (by k_asm) (by k_asm) (by kmk_list) (by kmk_list) (by l_ints) (by l_ints) ?_ (by first | ((first | walk_at "SUMLEN" | fail); done) | fail)); intro _ _ _ _ _ zl1 _; (try k_lt zl1); (try k_sweep)))
  k_with "TAILIN1" => ((repeat (first | assumption | refine' List.Mem.tail _ ?_)))
  k_with "MEMU" => ((repeat (first | exact List.mem_append_left _ (by assumption) | refine' List.Mem.tail _ ?_)))
  k_with "call builtin:list.count" => ((k_here; k_dflt (refine' cnt_slice (n := k + 1) (by k_asm) (by k_mem) (by assumption) (by lia) ?_)))
  k_with "call builtin:str.join" => ((k_here; k_dflt (refine' joinK (by is_list) (by assumption) (by decide) (by assumption) ?_; intro _ _; (try dsimp only))))
  k_with "binaryOp Add str str" => ((k_here; (with_reducible show wpAny _ _ (binaryOp Operator.Add (Value.str _ _) (Value.str (Txt.join _ _) _)) _ _ _); (refine PyProof.Rows.add_str ?_ hz9); intro t9 tk9))
  k_with "binaryOp Add ref ref" => ((k_here; (with_reducible show wpAny _ _ (binaryOp _ (Value.ref _) (Value.ref _)) _ _ _); k_dflt ((try dsimp only); refine' add_txts (vs := [Value.str _ _]) (by k_asm) (by k_asm) (by kmk_list) (by kmk_list) (by exact .cons _ _ .nil) (by assumption) ?_ (by first | (((rw [sizeLine_eq]; simp only [List.length_cons, List.length_nil]; lia)); done) | fail)); intro _ _ _ _ _ _ zl1; (try k_lt zl1); (try k_sweep)))
  k_with "exec For Name Call cons nil" => ((k_here; (with_unfolding_all refine' For_turns (by first | with_reducible assumption | assumption) ?_ (fun _ => rfl) PassesOwn.never)))
  k_with "call type:zip" => ((refine' stopHere ?_))
  k_with "pyIter ref" => ((refine' stopHere ?_))
  k_with "call ref" => ((refine' stopHere ?_))
  k_with "CompSrc" => ((refine' stopHere ?_))
  k_with "eval ListComp" => ((k_here; first
  | ((with_reducible show wpAny _ _ (eval (Expr.ListComp _ [⟨Expr.Name _ _, _, [], 0⟩] _ _) _) _ _ _); k_dflt (refine LCg.ListComp_U (F₀ := by k_asm) (by with_unfolding_all rfl) (by decide) (by rfl) (by decide) (by rfl) ?_))
  | ((with_reducible show wpAny _ _ (eval (Expr.ListComp _ [⟨Expr.Tuple _ _ _, _, _, 0⟩] _ _) _) _ _ _); k_dflt (refine ListComp_G (by k_asm) (by with_unfolding_all rfl) (by decide) (by rfl) (by decide) ?_))))
  k_with "subscriptTail Name Slice ref ref" => ((k_here; (with_reducible show wpAny _ _ (subscriptTail _ (PySem.Expr.Slice none (some (Expr.BinOp _ _ _ _)) none _) (Value.ref _) (Value.ref _)) _ _ _); k_dflt (refine' kmk_slice (by k_asm) (by k_asm) (by kmk_list) (by kmk_part) (by kmk_part) ?_ (by with_unfolding_all rfl) (by kmk_pure) (by first | (((rw [sizeLine_eq]; simp only [List.size_toArray]; lia)); done) | fail)); intro _ _ _ _ zl1; (try k_lt zl1); (try k_sweep)))
  k_with "call builtin:len" => ((k_here; (with_reducible show wpAny _ _ (call (Value.builtin "len") [Value.str _ _]) _ _ _); (refine P.len_str (by first | ((first | exact hL1 | exact hL2); done) | fail) ?_); (try dsimp only)))
  w_on
  w_top on
  obtain ⟨B, F, X, T, hk, CA, CB⟩ := cx
  have hdp' : dp + 10 < 1000 := hdp
  have hun' : un + 300 < 9900 := hun
  have hgb : GotBack NoT h₀ L m news s (fun v new => ∃ r vs ep own, Rws own vs (rowsOf ps cnt (2 ^ cnt)) ∧ (∀ o ∈ own, o.1 ≠ r) ∧ v = .ref r ∧ new = (r, W.listOf vs.toArray ep) :: own) Q := by
    rintro _ _ t' h' tk' rfl ⟨r, vs, ep, own, hv, ho, rfl, rfl⟩ F' N' dn dt
    rw [List.append_nil] at N'
    exact hret r vs ep own h' tk' hv F' N' (fun q hq => dn q hq _ (.head _)) (fun q hq o ho => dn q hq _ (.tail _ ho)) ho
  clear hret
  have N0 : News h₀ L s.heap (news ++ []) := by rw [List.append_nil]; exact N
  have hown : Dis news [] := fun _ _ _ h => nomatch h
  first | k_dflt ((
        refine' enterC ?k1 ?k2 ?k3 ?k4 ?k5 ?k6 ?kA ?kF ?kK ?k7 ?kd ?k8 ?k9 ?kb ?kB ?kD ?kr ?_ ?c2 ?c3 ?c4
        (case kr => assumption); (case kA => exact rfl); (case kF => exact rfl); (case kK => assumption)
        (case k1 => k_asm); (case k2 => k_asm); (case k3 => k_asm); (case k4 => k_asm); (case k5 => k_asm); (case k6 => assumption)
        (case k7 => k_is); (case kd => exact rfl); (case k8 => k_is); (case k9 => walk_at "ROOM"); (case kb => exact BindsTo.of_eq rfl); (case kB => exact rfl); (case kD => decide +kernel); (case c2 => exact rfl); (case c3 => exact rfl); (case c4 => exact rfl))) | fail
  intro g' L' h' tk' cells' hkg F' N' Y' B' X' T' l1
  refine holdQ ?_
  intro QR hQR
  have hd' := listIn0 hkg hd
  have hp' := hp.mono (keep0 hkg)
  clear hkg
  k_cells Y'
  simp only [List.cons_append, List.nil_append, List.append_nil] at N'
  clear hgb N0 N F B X T hown l1 hd hp
  have hpvl := hp'.length
  have hdg : g'.IsList d pv.toArray := hd'
  obtain ⟨od, hod, _⟩ := hdg
  (try dsimp only)
  (try k_fold)
  k_steps
  rename_i oM oS dM dS rt lR z1 ltR z2 z3 z4 z5 z6 z7 z8 z9 hrg F0 N0 kp
  refine' Stop.go ?_
  clear rt kp z3 z4
  have hpw : ((2 : Int) ^ (cnt : Int).toNat) = ((2 ^ cnt : Nat) : Int) := by simp
  have hpw16 : 2 ^ cnt ≤ 16 := Nat.le_trans (show 2 ^ cnt ≤ 2 ^ 4 from Nat.pow_le_pow_right (by decide) hc1) (by decide)
  have hR1 : @LT.lt Nat _ (L' + 1 + 1) lR := ltR.1
  have hR2 : @LT.lt Nat _ (L' + 1) lR := ltR.2
  clear ltR
  k_dflt refine' iter_rngTurns (n := 2 ^ cnt) ?hh hrg ?hsmall ?hn ?F ?N (fun m₀ i m news => RowI ps cnt lR (L' + 1 + 1) (L' + 1) m₀ i m news) ?start ?step ?done
  case hh => exact rfl
  case F => k_asm
  case N => k_asm
  case hsmall => exact range_small (by rw [hpw]; exact Int.natCast_nonneg _) (by rw [hpw]; exact Int.ofNat_le.mpr (Nat.le_trans hpw16 (by decide)))
  case hn => exact range_n hpw
  case start => exact ⟨[], 0, [], oM, oS, _, _, dM, dS, .nil, ⟨(fun _ h => nomatch h), fun _ _ _ => rfl⟩, (fun _ h => nomatch h), (fun _ h => nomatch h), (fun _ h => nomatch h), (fun _ h => nomatch h), rfl⟩
  case step =>
    intro I lI i m9 news9 t9 hi9 hz0 H tk F9
    refine hide ?_
    intro Z hZ
    obtain ⟨rv, er, fl, oM9, oS9, vM, vS, dM9, dS9, hR, hH, o1, o2, o3, hcl, rfl⟩ := hz0
    refine hZ ?_
    clear hZ Z
    have F9 := hH.fr F9
    refine AllObj.cons (w := (_, _)) fun it hit => AllObj.nil ?_
    intro N9
    simp only [List.cons_append, List.nil_append] at N9
    refine holdT ?_
    intro QT hQT
    have hI1 : @LT.lt Nat _ lR I := lI _ (.head _)
    have hI2 : @LT.lt Nat _ (L' + 1 + 1) I := lI _ (.tail _ (.head _))
    have hI3 : @LT.lt Nat _ (L' + 1) I := lI _ (.tail _ (.tail _ (.head _)))
    have o4 : ∀ p ∈ fl, p.1 ≠ I := fun q hq => clsNe N9 (.tail _ (.tail _ (.tail _ (.tail _ hq)))) (.head _) (by
      show q.2.cls ≠ it.cls
      rw [hit]
      rcases hcl q hq with e | e
      · rw [e]; exact (by decide : Value.type "list" ≠ Value.type "range_iterator")
      · rw [e]; exact (by decide : Value.type "tuple" ≠ Value.type "range_iterator"))
    clear lI dM dS
    have hrl : rv.length ≤ 64 := by rw [hR.length]; simp [rowsOf]; lia
    (try dsimp only)
    (try k_fold)
    k_steps
    refine' Stop.go ?_
    k_dflt refine LCg.CompSrc.range (n := cnt) (by rfl) (by k_asm) (by k_asm) (by assumption) (range_small (by lia) (by lia)) (range_n rfl) (by rw [sizeLine_eq]; lia) ?_
    intro g9
    refine comp_mapN (n := cnt) (fun k y => ∃ t, y = Value.str (mkAt i k) t) ?hS ?fin ?step _ 0 [] (Nat.zero_add _) rfl (fun j y h => by simp at h)
    case hS => exact True.intro
    case step =>
      intro k v hik I9 oI C9 oC D9 m₂ h8 tk8 E8 ys hP9 hC hx F8 N8 off ne
      obtain ⟨t8, rfl⟩ := hP9
      (try simp only [LCg.Off3, and_true] at off)
      (try dsimp only)
      k_steps
      all_goals first | assumption | k_asm | (have e9 := mkT (i := i) (k := k) (by assumption) (by lia); exact congrArg (fun z => Value.str z _) e9) | (have e9 := mkF (i := i) (k := k) (by assumption) (by lia); exact congrArg (fun z => Value.str z _) e9) | exact newsSub (by assumption) (by walk_at "SUBL")
    case fin =>
      intro ys hl hr
      have hys : Txts ys (mksOf cnt i) := Txts.of (by rw [hl]; simp [mksOf]) (fun k y hy => by
        obtain ⟨t, rfl⟩ := hr k y hy
        have hk := (List.getElem?_eq_some_iff.mp hy).1
        exact ⟨mkAt i k, t, by unfold mksOf; rw [List.getElem?_map, List.getElem?_range (by lia)]; rfl, rfl⟩)
      have hysl := hys.length
      have hmkl : (mksOf cnt i).length = cnt := by simp [mksOf]
      clear hr
      unfold LCg.FinE
      intro D8 h8 tk8 F8 N8 o8
      (try simp only [LCg.Off1, and_true] at o8)
      (try dsimp only)
      k_steps
      rename_i y1 oS7 dS7 y2 y3 y4 y5 y6 y7 y8 y9 y10 oM7 dM7 lE y12 ltE D zs y13 hzs F0 N0
      refine' Stop.go ?_
      have hzl : zs.length = cnt + 1 := by rw [hzs.length]; simp [hmkl]
      have N1 := newsSub (l' := (D, W.listOf zs.toArray 0) :: (D8, LCg.lst ys) :: (I, it) :: (lR, W.listOf rv.toArray er) :: (L' + 1 + 1, oM7) :: (L' + 1, oS7) :: fl) N0 (by first | walk_at "SUBL" | fail)
      clear N0
      have q1 : @LT.lt Nat _ D8 D := zl1.2.1
      have q2 : @LT.lt Nat _ I D := zl1.2.2.1
      have q3 : @LT.lt Nat _ lR D := zl1.2.2.2.1
      have q4 : @LT.lt Nat _ (L' + 1 + 1) D := zl1.2.2.2.2.1
      have q5 : @LT.lt Nat _ (L' + 1) D := zl1.2.2.2.2.2.1
      have q6 : AllLt D fl := zl1.2.2.2.2.2.2
      clear zl1 ltE
      have htk : Sml (5 * ps.length) (textOf (mksOf cnt i) ps) := text_sml (mksOf_ok cnt i) hpb (by rw [hmkl]; exact hpl)
      have hsl : (segOf (Str.ofString "" :: mksOf cnt i) ps).length = cnt + 1 := by rw [seg_len _ _ (by rw [List.length_cons, hmkl, hpl]), hpl]
      have hss : ∀ x ∈ segOf (Str.ofString "" :: mksOf cnt i) ps, Sml 5 x := seg_sml _ _ (List.forall_mem_cons.mpr ⟨none_sml, fun x hx => mark_sml (mksOf_ok cnt i x hx)⟩) hpb
      k_dflt refine' zipG_compL (hL := ?hL) (x := .lst D zs.toArray) (y := .lst d pv.toArray) (keep := [(D, W.listOf zs.toArray 0)]) ?hh rfl ?hct ?hcn ?hok ?F ?N ?hkp ?ok ?hn ?hfp ?hsz ?hkd ?hxa ?hxb ?hab
        (fun j ys gr => gr = [] ∧ Txts ys ((segOf (Str.ofString "" :: mksOf cnt i) ps).take j)) ?h0 ?step ?fin
      case hh => exact rfl
      case F => k_asm
      case N => exact N1
      case hL => exact rfl
      case hkp => exact fun p hp => by rw [List.mem_singleton.mp hp]; exact .head _
      case hct => kernel_rfl
      case hcn => kernel_rfl
      case hok => intro obj; exact PySem.F.args_object_init_3 obj _ _
      case ok =>
        refine List.forall_mem_cons.mpr ⟨?_, List.forall_mem_cons.mpr ⟨?_, List.forall_mem_nil _⟩⟩ <;> k_dflt is_list
      case hn =>
        refine List.forall_mem_cons.mpr ⟨Nat.le_refl _, List.forall_mem_cons.mpr ⟨?_, List.forall_mem_nil _⟩⟩
        show Array.size _ ≤ Array.size _; simp; lia
      case hfp =>
        refine List.forall_mem_cons.mpr ⟨?_, List.forall_mem_cons.mpr ⟨?_, List.forall_mem_nil _⟩⟩ <;> (intro b hb; rw [List.mem_singleton.mp hb])
        · exact .inl ⟨_, .head _⟩
        · exact .inr ⟨_, hod⟩
      case hsz => rw [sizeLine_eq]; show Array.size _ ≤ _; rw [List.size_toArray]; lia
      case hkd => exact rfl
      case hxa => exact rfl
      case hxb => exact rfl
      case hab => decide
      case h0 => exact ⟨rfl, .nil⟩
      case step =>
        intro I2 lI2 C oC D2 j cs9 gr m₂ vx vy H2 tkH E' hj hyl hvx hvy e1 e2 hC hz0 F9 hCD off9
        refine hide ?_
        intro Z hZ
        obtain ⟨rfl, hT⟩ := hz0
        obtain ⟨k, tk9, hk9, rfl⟩ := hzs.get (by simpa [Src.P] using hvx)
        obtain ⟨a9, vs9, xs9, hx9, rfl, hl9, ht9⟩ := hp'.get (by simpa [Src.P] using hvy)
        have hpx := hpb xs9 (List.mem_of_getElem? hx9)
        have hw9 : (xs9.map (·.length)).sum + xs9.length ≤ 1048576 := by
          have h1 := sum_len (n := 2) xs9 fun x hx => (bit_sml (hpx.2 x hx)).1
          have h2 := hpx.1
          lia
        have hkm : Sml 1 k := by
          have hm := List.mem_of_getElem? hk9
          rcases List.mem_append.mp hm with h | h
          · rw [List.mem_singleton.mp h]; exact none_sml
          · exact mark_sml (mksOf_ok cnt i k h)
        have hz9 : k.length + (Txt.join (Str.ofString "") xs9).length ≤ sizeLine := by
          have h1 : k.length ≤ 1 := hkm.1
          have h2 : (Txt.join (Str.ofString "") xs9).length ≤ 4 := (piece_sml hpx).1
          rw [sizeLine_eq]; lia
        refine hZ ?_
        clear hZ Z
        clear hvx hvy
        rw [zws2]
        refine AllObj.cons fun z1 hz1 => AllObj.cons fun z2 hz2 => AllObj.cons fun z3 hz3 => AllObj.cons fun z4 hz4 => AllObj.cons fun z5 hz5 => AllObj.nil ?_
        intro hio1 hio2 N9
        simp only [List.cons_append, List.nil_append] at N9
        refine wpAny_tests_nil ?_
        simp only [if_true]
        (try dsimp only)
        (try k_fold)
        k_steps
        have hseg := seg_get (ks := Str.ofString "" :: mksOf cnt i) hk9 hx9
        refine ⟨_, _, [], rfl, by k_asm, by (simp only [List.cons_append, List.nil_append]; k_asm), (fun p hp => ⟨hio2 p hp, (off9 p hp).1, (off9 p hp).2⟩), rfl, ?_⟩
        rw [List.take_add_one, hseg]
        exact hT.append1 _ _
      case fin =>
        intro h'
        intro D3 H3 tk3 ts gr F9 N9 off3 hz0
        refine hide ?_
        intro Z hZ
        obtain ⟨rfl, hT⟩ := hz0
        refine hZ ?_
        clear hZ Z
        have hT : Txts ts (segOf (Str.ofString "" :: mksOf cnt i) ps) := by
          have e : (segOf (Str.ofString "" :: mksOf cnt i) ps).take (Src.lst D zs.toArray).n = segOf (Str.ofString "" :: mksOf cnt i) ps := List.take_of_length_le (by show _ ≤ Array.size _; rw [List.size_toArray, hsl, hzl]; exact Nat.le_refl _)
          rw [← e]; exact hT
        have hw9 : ((segOf (Str.ofString "" :: mksOf cnt i) ps).map (·.length)).sum + (segOf (Str.ofString "" :: mksOf cnt i) ps).length ≤ 1048576 := by
          have h1 := sum_len (n := 5) _ fun x hx => (hss x hx).1
          lia
        simp only [List.nil_append] at N9 off3
        replace off3 := allNe_of off3
        simp only [AllNe, and_true] at off3
        (try dsimp only)
        (try k_fold)
        k_steps
        refine' Stop.go ?_
        have htw : ((toldOf (mksOf cnt i) ps).map (·.length)).sum + (toldOf (mksOf cnt i) ps).length ≤ 1048576 := by
          have h0 := told_small (mksOf_ok cnt i) hpb (by lia)
          have h1 := sum_len (n := 30) _ h0.2
          have h2 := h0.1
          lia
        clear hw9
        have hta : (textOf (mksOf cnt i) ps).cps.all (· < 128) = true := by rw [← Array.all_toList]; exact htk.2
        have hpr := parse_read (mksOf_ok cnt i) hpb
        have hok := fin_ok hta
        rw [hpr] at hok
        k_here
        k_dflt refine' spec_phl (x := textOf (mksOf cnt i) ps) ?cx ?N ?ha ?hlen ?hdp ?hun ?_
        case cx => walk_at "CX"
        case N => k_asm
        case ha => exact hta
        case hlen => have := htk.1; lia
        case hdp => walk_at "ROOM"
        case hun => walk_at "ROOM"
        intro rT vT epT hT' tkT htT FT NT hfT
        rw [hpr] at htT
        replace hfT := allNe_of hfT
        simp only [AllNe, and_true] at hfT
        (try dsimp only)
        (try k_fold)
        k_steps
        refine' Stop.go ?_
        k_here
        k_dflt refine' spec_rea (pv := pv) (mv := ys) (ps := ps) (mks := mksOf cnt i) ?cx ?N ?hd1 ?hp ?hpb ?hpl ?hd2 ?hm ?hmk ?hml ?hdp ?hun ?_
        case cx => walk_at "CX"
        case N => k_asm
        case hd1 => is_list
        case hp => (rename Fr _ _ _ _ => FZ; exact hp'.mono FZ.keep)
        case hpb => exact hpb
        case hpl => lia
        case hd2 => is_list
        case hm => exact hys
        case hmk => exact mksOf_ok cnt i
        case hml => rw [hmkl]; exact hpl
        case hdp => walk_at "ROOM"
        case hun => walk_at "ROOM"
        intro rR vR epR hR' tkR htR FR NR hfR
        replace hfR := allNe_of hfR
        simp only [AllNe, and_true] at hfR
        (try dsimp only)
        (try k_fold)
        k_here
        k_dflt refine' ne_txts ?ha ?hb ?hi ?hj ?hok ?hu ?_
        case ha => is_list
        case hb => is_list
        case hi => exact htT
        case hj => exact htR
        case hok => exact hok
        case hu => walk_at "ROOM"
        (try dsimp only)
        have hL1 : ¬ ((textOf (mksOf cnt i) ps).length : Int) ≥ 2 ^ 63 := by
          have h : (textOf (mksOf cnt i) ps).length ≤ 5 * ps.length := htk.1
          lia
        have hL2 : ¬ ((joinS (toldOf (mksOf cnt i) ps)).length : Int) ≥ 2 ^ 63 := by
          rw [join_sz]; lia
        k_steps
        refine' Stop.go ?_
        k_dflt refine LCg.CompSrc.range (n := cnt) (by rfl) (by k_asm) (by k_asm) (by assumption) (range_small (by lia) (by lia)) (range_n rfl) (by rw [sizeLine_eq]; lia) ?_
        intro g8
        refine comp_mapN (n := cnt) (fun k y => ∃ t, y = Value.int (quoAt (mksOf cnt i) k) t) ?hS ?fin ?step _ 0 [] (Nat.zero_add _) rfl (fun j y h => by simp at h)
        case hS => exact True.intro
        case step =>
          intro k v hik I9 oI C9 oC D9 m₂ h8 tk8 E8 ys2 hP9 hC hx F8 N8 off ne
          obtain ⟨t8, rfl⟩ := hP9
          (try simp only [LCg.Off3, and_true] at off)
          (try dsimp only)
          k_steps
          all_goals first | assumption | k_asm | exact rfl | exact newsSub (by assumption) (by walk_at "SUBL")
        case fin =>
          intro ys2 hl2 hr2
          have hy2 : IntsAre ys2 ((List.range cnt).map (quoAt (mksOf cnt i))) := intsOf (by rw [hl2]; simp) (fun k y hy => by
            obtain ⟨t, rfl⟩ := hr2 k y hy
            have hk := (List.getElem?_eq_some_iff.mp hy).1
            exact ⟨quoAt (mksOf cnt i) k, t, by rw [List.getElem?_map, List.getElem?_range (by lia)]; rfl, rfl⟩)
          clear hr2
          unfold LCg.FinE
          intro D9 h9 tk9 F9 N9 o9
          (try simp only [LCg.Off1, and_true] at o9)
          (try dsimp only)
          k_steps
          rename_i D5 h5 l5 h6 F6
          refine' hQT _ _ ?_
          refine' TurnP.next ?F ?N ((lR, _) :: (L' + 1 + 1, oM7) :: (L' + 1, oS7) :: (D5, _) :: (D9, _) :: fl) ?hs ?off ?r
          case F => k_asm
          case N => k_asm
          case hs => first | walk_at "SUBL" | fail
          case off => first | walk_at "OFF" | fail
          case r =>
            refine' ⟨_, _, (D5, _) :: (D9, _) :: fl, oM7, oS7, _, _, dM7, dS7, ?hR, ⟨(fun _ h => nomatch h), ?h2⟩, ?p1, ?p2, ?p3, ?pc, rfl⟩
            case hR =>
              rw [rowsOf_succ]
              exact (hR.more fun p hp => .tail _ (.tail _ hp)).snoc (.head _) (.tail _ (.head _)) hy2
            case h2 =>
              intro z g1 g2
              have a1 := notIn g2 _ (.head _)
              have a2 := notIn g2 _ (.tail _ (.head _))
              (repeat (first | with_reducible exact rfl | with_reducible refine stIf (by assumption) ?_ | with_reducible refine stCons (by assumption) ?_ | with_reducible refine stNil ?_ | with_reducible refine stCon (by assumption) ?_))
            case p1 => exact List.forall_mem_cons.mpr ⟨by first | k_ne | fail, List.forall_mem_cons.mpr ⟨by first | k_ne | fail, o1⟩⟩
            case p2 => exact List.forall_mem_cons.mpr ⟨by first | k_ne | fail, List.forall_mem_cons.mpr ⟨by first | k_ne | fail, o2⟩⟩
            case p3 => exact List.forall_mem_cons.mpr ⟨by first | k_ne | fail, List.forall_mem_cons.mpr ⟨by first | k_ne | fail, o3⟩⟩
            case pc => exact List.forall_mem_cons.mpr ⟨.inr rfl, List.forall_mem_cons.mpr ⟨.inl rfl, hcl⟩⟩
  case done =>
    intro m9 news9 hz0 H tk F9 N9
    refine hide ?_
    intro Z hZ
    obtain ⟨rv, er, fl, oM9, oS9, vM, vS, dM9, dS9, hR, hH, o1, o2, o3, hcl, rfl⟩ := hz0
    refine hZ ?_
    clear hZ Z
    have F9 := hH.fr F9
    (try dsimp only)
    (try k_fold)
    k_steps
    exact hQR _ _ <| Ret.intro (t' := []) ((_, _) :: fl) rfl (by k_asm) (by k_asm) (by rw [List.append_nil]; first | walk_at "SUBL" | fail) ⟨_, _, _, fl, hR, o1, rfl, rfl⟩

/- the plain law: what a text loses -/
def nC (p : List Str) : Nat := (p.filter lastC).length
def nT (p : List Str) : Nat := (p.filter twoS).length
def lossT : List (List Str) → List Int → Nat
  | p :: ps, q :: qs => (if q = 0 then nC p else nT p) + lossT ps qs
  | _, _ => 0
def stF : Bool → List Str → List Int
  | _, [] => []
  | q, k :: ks => (if (if k == Str.ofString "\"" then !q else q) then 1 else 0) :: stF (if k == Str.ofString "\"" then !q else q) ks
def wS (xs : List Str) : Nat := (xs.map fun x => x.cps.size).sum
theorem wS_app (xs ys : List Str) : wS (xs ++ ys) = wS xs + wS ys := by
  unfold wS
  rw [List.map_append, List.sum_append]
theorem joinS_len (xs : List Str) : (joinS xs).cps.size = wS xs := by
  rw [← Array.length_toList]
  show (Txt.join _ xs).cps.toList.length = _
  rw [join_toList, List.length_flatMap]
  rfl
def RS.wt (s : RS) : Nat := wS s.dn + s.cur.cps.size
theorem wS_fin (s : RS) : wS s.fin = s.wt := by
  unfold RS.fin RS.wt
  split
  · lia
  · rw [wS_app]; rfl
theorem RS.bit_q {s : RS} {x : Str} : (s.bit x).q = s.q := by
  unfold RS.bit
  cases h : s.q
  · cases lastC x <;> simp [h]
  · simp [h]
theorem sz_init {x : Str} (hx : BitOk x) (h : lastC x = true) : (initS x).cps.size + 1 = x.cps.size := by
  rcases hx with rfl | rfl | rfl | rfl <;> revert h <;> decide
theorem sz_last {x : Str} (hx : BitOk x) : (lastS x).cps.size + (if twoS x then 1 else 0) = x.cps.size := by
  rcases hx with rfl | rfl | rfl | rfl <;> decide
theorem RS.bit_wt {s : RS} {x : Str} (hx : BitOk x) : (s.bit x).wt + (if (if s.q then twoS x else lastC x) then 1 else 0) = s.wt + x.cps.size := by
  unfold RS.bit
  cases h : s.q
  · cases hl : lastC x
    · simp only [if_false, Bool.false_eq_true, RS.wt, app_size]; lia
    · have := sz_init hx hl
      simp only [if_true, if_false, Bool.false_eq_true, RS.wt]
      rw [wS_app]
      have e : wS [s.cur ++ initS x] = s.cur.cps.size + (initS x).cps.size := by
        show (s.cur ++ initS x).cps.size + 0 = _
        rw [app_size]; rfl
      have e0 : (Str.ofString "").cps.size = 0 := by decide
      rw [e, e0]; lia
  · have := sz_last hx
    simp only [if_true, RS.wt, app_size]; lia
theorem RS.bits_wt : ∀ {xs : List Str} {s : RS}, (∀ x ∈ xs, BitOk x) → (xs.foldl RS.bit s).wt + (if s.q then nT xs else nC xs) = s.wt + wS xs ∧ (xs.foldl RS.bit s).q = s.q
  | [], s, _ => by
    refine ⟨?_, rfl⟩
    show s.wt + (if s.q then 0 else 0) = s.wt + 0
    cases s.q <;> rfl
  | x :: r, s, h => by
    obtain ⟨a, b⟩ := RS.bits_wt (xs := r) (s := s.bit x) fun y hy => h y (.tail _ hy)
    have c := RS.bit_wt (s := s) (h x (.head _))
    rw [RS.bit_q] at a b
    refine ⟨?_, b⟩
    have e : wS (x :: r) = x.cps.size + wS r := rfl
    have e1 : nT (x :: r) = (if twoS x then 1 else 0) + nT r := by unfold nT; rw [List.filter_cons]; split <;> simp <;> lia
    have e2 : nC (x :: r) = (if lastC x then 1 else 0) + nC r := by unfold nC; rw [List.filter_cons]; split <;> simp <;> lia
    rw [List.foldl_cons, e, e1, e2]
    revert a c
    cases s.q
    · simp only [if_false, Bool.false_eq_true]; lia
    · simp only [if_true]; lia
theorem RS.run_wt : ∀ {ks : List Str} {ps : List (List Str)} {s : RS}, ks.length = ps.length → (∀ xs ∈ ps, ∀ x ∈ xs, BitOk x) → (RS.run s ks ps).wt + lossT ps (stF s.q ks) = s.wt + wS (segOf ks ps)
  | [], [], s, _, _ => rfl
  | [], _ :: _, _, h, _ => nomatch h
  | _ :: _, [], _, h, _ => nomatch h
  | k :: ks, p :: ps, s, h, hb => by
    have b := RS.bits_wt (xs := p) (s := s.mark k) (hb p (.head _))
    have a := RS.run_wt (ks := ks) (ps := ps) (s := s.piece k p) (by simpa using h) fun xs hx => hb xs (.tail _ hx)
    have hq : (s.piece k p).q = (s.mark k).q := b.2
    rw [hq] at a
    have e : wS (segOf (k :: ks) (p :: ps)) = (k ++ joinS p).cps.size + wS (segOf ks ps) := rfl
    rw [app_size, joinS_len] at e
    have e2 : (s.mark k).wt = s.wt + k.cps.size := by show wS s.dn + (s.cur ++ k).cps.size = _; rw [app_size]; unfold RS.wt; lia
    have e3 : lossT (p :: ps) (stF s.q (k :: ks)) = (if (s.mark k).q then nT p else nC p) + lossT ps (stF (s.mark k).q ks) := by
      show (if (if (s.mark k).q then (1 : Int) else 0) = 0 then nC p else nT p) + lossT ps (stF (s.mark k).q ks) = _
      congr 1
      cases (s.mark k).q <;> rfl
    rw [e, e3]
    have b1 := b.1
    show (RS.run (s.piece k p) ks ps).wt + _ = _
    have b2 : (s.piece k p).wt + (if (s.mark k).q then nT p else nC p) = (s.mark k).wt + wS p := b1
    lia
theorem row_fst {p0 : List Str} {ps : List (List Str)} {cnt i : Nat} (hl : ps.length = cnt) (hb : ∀ xs ∈ p0 :: ps, ∀ x ∈ xs, BitOk x) : (rowOf (p0 :: ps) cnt i).1 = ((nC p0 + lossT ps (stF false (mksOf cnt i)) : Nat) : Int) := by
  have h := RS.run_wt (ks := Str.ofString "" :: mksOf cnt i) (ps := p0 :: ps) (s := ⟨[], Str.ofString "", false⟩) (by simp [mksOf, hl]) hb
  have e : (Str.ofString "" == Str.ofString "\"") = false := by decide
  have h0 : (⟨[], Str.ofString "", false⟩ : RS).wt = 0 := by decide
  have e1 : lossT (p0 :: ps) (stF false (Str.ofString "" :: mksOf cnt i)) = nC p0 + lossT ps (stF false (mksOf cnt i)) := by
    simp [stF, e, lossT]
  rw [e1, h0] at h
  show (((textOf (mksOf cnt i) (p0 :: ps)).cps.size : Nat) : Int) - (((joinS (toldOf (mksOf cnt i) (p0 :: ps))).cps.size : Nat) : Int) = _
  rw [joinS_len]
  have e2 : (textOf (mksOf cnt i) (p0 :: ps)).cps.size = wS (segOf (Str.ofString "" :: mksOf cnt i) (p0 :: ps)) := joinS_len _
  have e3 : wS (toldOf (mksOf cnt i) (p0 :: ps)) = (RS.run ⟨[], Str.ofString "", false⟩ (Str.ofString "" :: mksOf cnt i) (p0 :: ps)).wt := wS_fin _
  rw [e2, e3]
  lia
/- the settings are all rows of noughts and ones -/
def QV (cnt : Nat) : List (List Int) := (List.range (2 ^ cnt)).map fun i => (List.range cnt).map (quoAt (mksOf cnt i))
def allQ : Nat → List (List Int)
  | 0 => [[]]
  | n + 1 => ((allQ n).map fun v => 0 :: v) ++ ((allQ n).map fun v => 1 :: v)
theorem st3 : ∀ i : Fin 8, stF false (mksOf 3 i.1) = (List.range 3).map (quoAt (mksOf 3 i.1)) := by decide +kernel
theorem st4 : ∀ i : Fin 16, stF false (mksOf 4 i.1) = (List.range 4).map (quoAt (mksOf 4 i.1)) := by decide +kernel
theorem qv3 : (QV 3).Perm (allQ 3) := by decide +kernel
theorem qv4 : (QV 4).Perm (allQ 4) := by decide +kernel
theorem qvP {cnt : Nat} (h : cnt = 3 ∨ cnt = 4) : (QV cnt).Perm (allQ cnt) := by
  rcases h with rfl | rfl
  · exact qv3
  · exact qv4
theorem stQ {cnt i : Nat} (h : cnt = 3 ∨ cnt = 4) (hi : i < 2 ^ cnt) : stF false (mksOf cnt i) = (List.range cnt).map (quoAt (mksOf cnt i)) := by
  rcases h with rfl | rfl
  · exact st3 ⟨i, hi⟩
  · exact st4 ⟨i, hi⟩
def rowQ (p0 : List Str) (ps : List (List Str)) (v : List Int) : Int × List Int := (((nC p0 + lossT ps v : Nat) : Int), v)
theorem rows_q {p0 : List Str} {ps : List (List Str)} {cnt : Nat} (h : cnt = 3 ∨ cnt = 4) (hl : ps.length = cnt) (hb : ∀ xs ∈ p0 :: ps, ∀ x ∈ xs, BitOk x) : rowsOf (p0 :: ps) cnt (2 ^ cnt) = (QV cnt).map (rowQ p0 ps) := by
  unfold rowsOf QV
  rw [List.map_map]
  refine List.map_congr_left fun i hi => ?_
  have hi := List.mem_range.mp hi
  have e1 := row_fst (i := i) hl hb
  rw [stQ h hi] at e1
  refine Prod.ext ?_ rfl
  exact e1
/- sums of powers -/
def pw (w : Nat) (n : Int) : Int := 2 ^ ((w : Int) * n).toNat
def BB (w n : Nat) : Int := 2 ^ (w * n)
theorem pw_nat (w n : Nat) : pw w (n : Int) = BB w n := by
  unfold pw BB
  rw [← Int.natCast_mul, Int.toNat_natCast]
theorem BB_add (w a b : Nat) : BB w (a + b) = BB w a * BB w b := by
  unfold BB
  rw [Nat.mul_add, Int.pow_add]
def fac (w : Nat) (p : List Str) : Int := BB w (nC p) + BB w (nT p)
def prd (w : Nat) : List (List Str) → Int
  | [] => 1
  | p :: ps => fac w p * prd w ps
def sumV (w e : Nat) (ps : List (List Str)) (vs : List (List Int)) : Int := (vs.map fun v => BB w (e + lossT ps v)).sum
theorem sumV_app (w e : Nat) (ps : List (List Str)) (a b : List (List Int)) : sumV w e ps (a ++ b) = sumV w e ps a + sumV w e ps b := by
  unfold sumV
  rw [List.map_append, List.sum_append]
theorem sumV_0 (w e : Nat) (p : List Str) (ps : List (List Str)) (a : List (List Int)) : sumV w e (p :: ps) (a.map fun v => 0 :: v) = sumV w (e + nC p) ps a := by
  unfold sumV
  rw [List.map_map]
  congr 1
  refine List.map_congr_left fun v _ => ?_
  show BB w (e + (nC p + lossT ps v)) = _
  rw [Nat.add_assoc]
theorem sumV_1 (w e : Nat) (p : List Str) (ps : List (List Str)) (a : List (List Int)) : sumV w e (p :: ps) (a.map fun v => 1 :: v) = sumV w (e + nT p) ps a := by
  unfold sumV
  rw [List.map_map]
  congr 1
  refine List.map_congr_left fun v _ => ?_
  show BB w (e + (nT p + lossT ps v)) = _
  rw [Nat.add_assoc]
theorem sum_all (w : Nat) : ∀ (ps : List (List Str)) (e : Nat), sumV w e ps (allQ ps.length) = BB w e * prd w ps
  | [], e => by
    show BB w (e + 0) + 0 = BB w e * 1
    rw [Nat.add_zero, Int.mul_one, Int.add_zero]
  | p :: ps, e => by
    show sumV w e (p :: ps) (_ ++ _) = _
    rw [sumV_app, sumV_0, sumV_1, sum_all w ps, sum_all w ps, BB_add, BB_add]
    show _ = BB w e * ((BB w (nC p) + BB w (nT p)) * prd w ps)
    rw [Int.add_mul, Int.mul_add, Int.mul_assoc, Int.mul_assoc]
/- those where one piece is in quotes, or isn't -/
def atQ (k : Nat) (v : List Int) : Bool := !(v.getD k 0 == 0)
theorem fil_map (f : List Int → Bool) (x : Int) (a : List (List Int)) : (a.map fun v => x :: v).filter f = (a.filter fun v => f (x :: v)).map fun v => x :: v := by
  rw [List.filter_map]
  rfl
theorem fil_t {α : Type} (l : List α) : l.filter (fun _ => true) = l := by
  rw [List.filter_eq_self]; exact fun _ _ => rfl
theorem fil_f {α : Type} (l : List α) : l.filter (fun _ => false) = [] := by
  rw [List.filter_eq_nil_iff]; exact fun _ _ h => nomatch h
theorem sum_at (w : Nat) (b : Bool) : ∀ (ps : List (List Str)) (k : Nat) (e : Nat) (_ : k < ps.length), sumV w e ps ((allQ ps.length).filter fun v => atQ k v == b) = BB w e * prd w (ps.eraseIdx k) * (if b then BB w (nT (ps.getD k [])) else BB w (nC (ps.getD k [])))
  | [], _, _, h => nomatch h
  | p :: ps, 0, e, _ => by
    show sumV w e (p :: ps) (List.filter _ (_ ++ _)) = _
    rw [List.filter_append, sumV_app, fil_map, fil_map, sumV_0, sumV_1]
    cases b
    · have e0 : (fun v : List Int => atQ 0 (0 :: v) == false) = fun _ => true := rfl
      have e1 : (fun v : List Int => atQ 0 (1 :: v) == false) = fun _ => false := rfl
      rw [e0, e1, fil_t, fil_f, sum_all, BB_add]
      show _ + 0 = BB w e * prd w ps * BB w (nC p)
      rw [Int.add_zero, Int.mul_assoc, Int.mul_assoc, Int.mul_comm (prd w ps)]
    · have e0 : (fun v : List Int => atQ 0 (0 :: v) == true) = fun _ => false := rfl
      have e1 : (fun v : List Int => atQ 0 (1 :: v) == true) = fun _ => true := rfl
      rw [e0, e1, fil_t, fil_f, sum_all, BB_add]
      show 0 + _ = BB w e * prd w ps * BB w (nT p)
      rw [Int.zero_add, Int.mul_assoc, Int.mul_assoc, Int.mul_comm (prd w ps)]
  | p :: ps, k + 1, e, h => by
    have ih := sum_at w b ps k
    show sumV w e (p :: ps) (List.filter _ (_ ++ _)) = _
    rw [List.filter_append, sumV_app, fil_map, fil_map, sumV_0, sumV_1]
    have e0 : ∀ x : Int, (fun v : List Int => atQ (k + 1) (x :: v) == b) = fun v => atQ k v == b := fun _ => rfl
    rw [e0, e0, ih _ (by simpa using h), ih _ (by simpa using h), BB_add, BB_add]
    show _ = BB w e * ((BB w (nC p) + BB w (nT p)) * prd w (ps.eraseIdx k)) * (if b then BB w (nT (ps.getD k [])) else BB w (nC (ps.getD k [])))
    generalize (if b = true then BB w (nT (ps.getD k [])) else BB w (nC (ps.getD k []))) = T
    generalize prd w (ps.eraseIdx k) = R
    generalize BB w e = X
    rw [← Int.add_mul, ← Int.add_mul, ← Int.mul_add, Int.mul_assoc X]
theorem prd_at (w : Nat) : ∀ (ps : List (List Str)) (k : Nat), k < ps.length → prd w ps = prd w (ps.eraseIdx k) * fac w (ps.getD k [])
  | [], _, h => nomatch h
  | p :: ps, 0, _ => by
    show fac w p * prd w ps = prd w ps * fac w p
    rw [Int.mul_comm]
  | p :: ps, k + 1, h => by
    show fac w p * prd w ps = fac w p * prd w (ps.eraseIdx k) * fac w (ps.getD k [])
    rw [prd_at w ps k (by simpa using h), Int.mul_assoc]
theorem perm_sum {a b : List Int} (h : a.Perm b) : a.sum = b.sum := by
  induction h with
  | nil => rfl
  | cons x _ ih => rw [List.sum_cons, List.sum_cons, ih]
  | swap x y l => simp only [List.sum_cons]; lia
  | trans _ _ h1 h2 => exact h1.trans h2
theorem sumV_perm {w e : Nat} {ps : List (List Str)} {a b : List (List Int)} (h : a.Perm b) : sumV w e ps a = sumV w e ps b := perm_sum (h.map _)
/- the counts as one number -/
theorem digVal_map_add {α : Type} (w : Nat) (f g : α → Int) : ∀ l : List α, digVal w (l.map fun j => f j + g j) = digVal w (l.map f) + digVal w (l.map g)
  | [] => rfl
  | x :: r => by
    show f x + g x + 2 ^ w * digVal w (r.map fun j => f j + g j) = (f x + 2 ^ w * digVal w (r.map f)) + (g x + 2 ^ w * digVal w (r.map g))
    rw [digVal_map_add w f g r, Int.mul_add]
    lia
theorem digVal_zero {α : Type} (w : Nat) : ∀ l : List α, digVal w (l.map fun _ => (0 : Int)) = 0
  | [] => rfl
  | x :: r => by
    show (0 : Int) + 2 ^ w * digVal w (r.map fun _ => (0 : Int)) = 0
    rw [digVal_zero w r, Int.mul_zero]; rfl
theorem digVal_none {w l : Nat} : ∀ (n s : Nat), l < s → digVal w ((List.range' s n).map fun j => if j = l then (1 : Int) else 0) = 0
  | 0, _, _ => rfl
  | n + 1, s, h => by
    show (if s = l then (1 : Int) else 0) + 2 ^ w * digVal w ((List.range' (s + 1) n).map fun j => if j = l then (1 : Int) else 0) = 0
    rw [if_neg (by lia), digVal_none n (s + 1) (by lia), Int.mul_zero]; rfl
theorem digVal_ind {w l : Nat} : ∀ (n s : Nat), s ≤ l → l < s + n → digVal w ((List.range' s n).map fun j => if j = l then (1 : Int) else 0) = 2 ^ (w * (l - s))
  | 0, s, h1, h2 => by lia
  | n + 1, s, h1, h2 => by
    show (if s = l then (1 : Int) else 0) + 2 ^ w * digVal w ((List.range' (s + 1) n).map fun j => if j = l then (1 : Int) else 0) = _
    rcases Nat.lt_or_ge s l with h | h
    · rw [if_neg (by lia), digVal_ind n (s + 1) (by lia) (by lia), Int.zero_add, ← Int.pow_add]
      congr 1
      rw [show l - s = (l - (s + 1)) + 1 by lia, Nat.mul_add, Nat.mul_one, Nat.add_comm]
    · have e : s = l := by lia
      subst e
      rw [if_pos rfl, digVal_none n (s + 1) (by lia), Int.mul_zero, Nat.sub_self]; rfl
def cntV (ls : List Int) : List Int := (List.range 11).map fun j => ((ls.count ((j : Nat) : Int) : Nat) : Int)
theorem cnt_val (w : Nat) : ∀ ls : List Int, (∀ y ∈ ls, 0 ≤ y ∧ y ≤ 10) → digVal w (cntV ls) = (ls.map (pw w)).sum
  | [], _ => digVal_zero w _
  | y :: r, h => by
    have h1 := h y (.head _)
    obtain ⟨l, rfl⟩ : ∃ l : Nat, y = (l : Int) := ⟨y.toNat, by lia⟩
    have e : cntV ((l : Int) :: r) = (List.range 11).map fun (j : Nat) => ((r.count ((j : Nat) : Int) : Nat) : Int) + (if j = l then 1 else 0) := by
      unfold cntV
      refine List.map_congr_left fun j _ => ?_
      rw [List.count_cons]
      by_cases hj : j = l
      · subst hj; simp
      · rw [if_neg hj, if_neg]
        · rfl
        · intro hh
          have := eq_of_beq hh
          lia
    rw [e, digVal_map_add, List.map_cons, List.sum_cons, pw_nat]
    have i := cnt_val w r fun z hz => h z (.tail _ hz)
    unfold cntV at i
    rw [i, List.range_eq_range', digVal_ind 11 0 (by lia) (by lia), Nat.sub_zero]
    unfold BB
    lia
theorem cntV_range {w : Nat} {ls : List Int} (hw : 5 ≤ w) (h : ls.length ≤ 16) : ∀ y ∈ cntV ls, 0 ≤ y ∧ y < 2 ^ w := by
  intro y hy
  obtain ⟨j, _, rfl⟩ := List.mem_map.mp hy
  have h1 : ls.count ((j : Nat) : Int) ≤ ls.length := List.count_le_length
  have h2 : (2 : Int) ^ 5 ≤ 2 ^ w := pow_mono2 hw
  lia
theorem cntV_length (ls : List Int) : (cntV ls).length = 11 := by simp [cntV]
/- what the law asks -/
theorem nC_le {p : List Str} (h : p.length ≤ 2) : nC p ≤ 2 := Nat.le_trans (List.length_filter_le _ _) h
theorem nT_le {p : List Str} (h : p.length ≤ 2) : nT p ≤ 2 := Nat.le_trans (List.length_filter_le _ _) h
theorem lossT_le : ∀ {ps : List (List Str)} {v : List Int}, (∀ xs ∈ ps, xs.length ≤ 2) → lossT ps v ≤ 2 * ps.length
  | [], _, _ => Nat.zero_le _
  | _ :: _, [], _ => Nat.zero_le _
  | p :: ps, q :: qs, h => by
    have h1 := nC_le (h p (.head _))
    have h2 := nT_le (h p (.head _))
    have h3 := lossT_le (ps := ps) (v := qs) fun xs hx => h xs (.tail _ hx)
    show (if q = 0 then nC p else nT p) + lossT ps qs ≤ 2 * (ps.length + 1)
    split <;> lia
def lostOf (rows : List (Int × List Int)) : List Int := rows.map (·.1)
def lostAt (rows : List (Int × List Int)) (k : Nat) (b : Bool) : List Int := (rows.filter fun r => atQ k r.2 == b).map (·.1)
section
variable {p0 : List Str} {ps : List (List Str)} {cnt w : Nat}
theorem lost_le (h : cnt = 3 ∨ cnt = 4) (hl : ps.length = cnt) (hp : ∀ xs ∈ p0 :: ps, xs.length ≤ 2 ∧ ∀ x ∈ xs, BitOk x) : ∀ y ∈ lostOf (rowsOf (p0 :: ps) cnt (2 ^ cnt)), 0 ≤ y ∧ y ≤ 10 := by
  intro y hy
  rw [rows_q h hl fun xs hx => (hp xs hx).2] at hy
  unfold lostOf at hy
  rw [List.map_map] at hy
  obtain ⟨v, _, rfl⟩ := List.mem_map.mp hy
  have h1 := nC_le (hp p0 (.head _)).1
  have h2 := lossT_le (ps := ps) (v := v) fun xs hx => (hp xs (.tail _ hx)).1
  show 0 ≤ ((nC p0 + lossT ps v : Nat) : Int) ∧ ((nC p0 + lossT ps v : Nat) : Int) ≤ 10
  lia
theorem lost_len (h : cnt = 3 ∨ cnt = 4) : (lostOf (rowsOf (p0 :: ps) cnt (2 ^ cnt))).length ≤ 16 := by
  unfold lostOf rowsOf
  rw [List.length_map, List.length_map, List.length_range]
  rcases h with rfl | rfl <;> decide
theorem lostAt_sub {rows : List (Int × List Int)} {k : Nat} {b : Bool} : ∀ y ∈ lostAt rows k b, y ∈ lostOf rows := by
  intro y hy
  obtain ⟨r, hr, rfl⟩ := List.mem_map.mp hy
  exact List.mem_map.mpr ⟨r, (List.mem_filter.mp hr).1, rfl⟩
theorem lostAt_len {rows : List (Int × List Int)} {k : Nat} {b : Bool} : (lostAt rows k b).length ≤ (lostOf rows).length := by
  unfold lostAt lostOf
  rw [List.length_map, List.length_map]
  exact List.length_filter_le _ _
theorem whole_val (h : cnt = 3 ∨ cnt = 4) (hl : ps.length = cnt) (hp : ∀ xs ∈ p0 :: ps, xs.length ≤ 2 ∧ ∀ x ∈ xs, BitOk x) : digVal w (cntV (lostOf (rowsOf (p0 :: ps) cnt (2 ^ cnt)))) = BB w (nC p0) * prd w ps := by
  rw [cnt_val w _ (lost_le h hl hp), rows_q h hl fun xs hx => (hp xs hx).2, ← sum_all, hl]
  refine Eq.trans ?_ (sumV_perm (qvP h))
  unfold lostOf sumV
  rw [List.map_map, List.map_map]
  congr 1
theorem at_val (h : cnt = 3 ∨ cnt = 4) (hl : ps.length = cnt) (hp : ∀ xs ∈ p0 :: ps, xs.length ≤ 2 ∧ ∀ x ∈ xs, BitOk x) {k : Nat} (hk : k < cnt) (b : Bool) :
    (powM w (lostAt (rowsOf (p0 :: ps) cnt (2 ^ cnt)) k b)).sum = BB w (nC p0) * prd w (ps.eraseIdx k) * (if b then BB w (nT (ps.getD k [])) else BB w (nC (ps.getD k []))) := by
  rw [rows_q h hl fun xs hx => (hp xs hx).2, ← sum_at w b ps k (nC p0) (by lia), hl]
  refine Eq.trans ?_ (sumV_perm ((qvP h).filter _))
  unfold lostAt sumV
  rw [List.filter_map]
  show (List.map (pw w) _).sum = _
  rw [List.map_map, List.map_map]
  congr 1
end
theorem BB_pos (w n : Nat) : 0 < BB w n := pow_pos2 _
theorem BB_le {w n : Nat} (hw : w ≤ 12) (h : n ≤ 2) : BB w n ≤ 2 ^ 24 := by
  refine pow_mono2 (Nat.le_trans (Nat.mul_le_mul hw h) (by decide))
theorem fac_pos (w : Nat) (p : List Str) : 2 ≤ fac w p := by
  have h1 := BB_pos w (nC p)
  have h2 := BB_pos w (nT p)
  unfold fac
  lia
theorem fac_le {w : Nat} {p : List Str} (hw : w ≤ 12) (h : p.length ≤ 2) : fac w p ≤ 2 ^ 25 := by
  have h1 := BB_le hw (nC_le h)
  have h2 := BB_le hw (nT_le h)
  unfold fac
  lia
theorem prd_pos (w : Nat) : ∀ ps : List (List Str), 0 < prd w ps
  | [] => (by decide : (0 : Int) < 1)
  | p :: ps => Int.mul_pos (by have := fac_pos w p; lia) (prd_pos w ps)
theorem prd_le {w : Nat} (hw : w ≤ 12) : ∀ ps : List (List Str), (∀ xs ∈ ps, xs.length ≤ 2) → prd w ps ≤ 2 ^ (25 * ps.length)
  | [], _ => Int.le_refl _
  | p :: ps, h => by
    have h1 := fac_le hw (h p (.head _))
    have h2 := prd_le hw ps fun xs hx => h xs (.tail _ hx)
    show fac w p * prd w ps ≤ 2 ^ (25 * (ps.length + 1))
    rw [Nat.mul_add, Nat.mul_one, Int.pow_add, Int.mul_comm]
    exact Int.mul_le_mul h2 h1 (by have := fac_pos w p; lia) (Int.le_of_lt (pow_pos2 _))
/- one division -/
theorem div_exact {q b : Int} (hb : 0 < b) : (q * b).fdiv b = q ∧ (q * b).fmod b = 0 := by
  refine ⟨Int.mul_fdiv_cancel _ (by lia), ?_⟩
  rw [Int.fmod_eq_emod_of_nonneg _ (by lia), Int.mul_emod_left]
theorem div_bits {q b : Int} (hq : 0 ≤ q) (h : q ≤ 2 ^ 99) (hb : 2 ≤ b) : Builtin.Int.intBits (q * b) ≤ 62 * Builtin.Int.intBits b := by
  have h1 : b < 2 ^ Builtin.Int.intBits b := lt_bits (by lia)
  have h2 : 2 ≤ Builtin.Int.intBits b := by
    rcases Nat.lt_or_ge (Builtin.Int.intBits b) 2 with h | h
    · have : (2 : Int) ^ Builtin.Int.intBits b ≤ 2 ^ 1 := pow_mono2 (by lia)
      lia
    · exact h
  refine bits_le (Int.mul_nonneg hq (by lia)) ?_
  have h3 : q * b < 2 ^ 99 * 2 ^ Builtin.Int.intBits b := by
    have h4 : q * b ≤ 2 ^ 99 * b := Int.mul_le_mul_of_nonneg_right h (by lia)
    have h5 : (2 : Int) ^ 99 * b < 2 ^ 99 * 2 ^ Builtin.Int.intBits b := Int.mul_lt_mul_of_pos_left h1 (pow_pos2 99)
    lia
  rw [← Int.pow_add] at h3
  have h6 : (2 : Int) ^ (99 + Builtin.Int.intBits b) ≤ 2 ^ (62 * Builtin.Int.intBits b) := pow_mono2 (by lia)
  lia
theorem quo_le {w : Nat} {p0 : List Str} {ps : List (List Str)} (hw : w ≤ 12) (h0 : p0.length ≤ 2) (h : ∀ xs ∈ ps, xs.length ≤ 2) (hl : ps.length ≤ 3) : 0 ≤ BB w (nC p0) * prd w ps ∧ BB w (nC p0) * prd w ps ≤ 2 ^ 99 := by
  have a1 := BB_pos w (nC p0)
  have a2 := prd_pos w ps
  refine ⟨Int.mul_nonneg (by lia) (by lia), ?_⟩
  have h1 := BB_le hw (nC_le h0)
  have h2 : prd w ps ≤ 2 ^ 75 := Int.le_trans (prd_le hw ps h) (pow_mono2 (by lia))
  have h3 : BB w (nC p0) * prd w ps ≤ 2 ^ 24 * 2 ^ 75 := Int.mul_le_mul h1 h2 (by lia) (by decide)
  rw [← Int.pow_add] at h3
  exact h3
/- the last digits -/
theorem digs_one_up {w : Nat} (hw : 1 ≤ w) : ∀ c : Nat, digs w (c + 1) (2 ^ (w * c)) = List.replicate c 0 ++ [1]
  | 0 => by
    show digs w 1 1 = [1]
    have h : (2 : Int) ^ 1 ≤ 2 ^ w := pow_mono2 hw
    exact digs_one (by decide) (by lia)
  | c + 1 => by
    have h := digs_add w (c + 1) 1 (2 ^ (w * (c + 1)))
    rw [Nat.add_comm 1 (c + 1)] at h
    have h2 : (2 : Int) ^ (w * (c + 1)) = 2 ^ (w * 1) * 2 ^ (w * c) := by rw [← Int.pow_add, ← Nat.mul_add, Nat.add_comm 1 c]
    have h0 := pow_pos2 (w * 1)
    have h3 : (2 : Int) ^ (w * (c + 1)) % 2 ^ (w * 1) = 0 := by rw [h2, Int.mul_emod_right]
    have h4 : (2 : Int) ^ (w * (c + 1)) / 2 ^ (w * 1) = 2 ^ (w * c) := by rw [h2, Int.mul_ediv_cancel_left _ (by lia)]
    rw [h3, h4, digs_one_up hw c, digs_zero] at h
    rw [h]
    rfl
theorem bits_pow (n : Nat) : Builtin.Int.intBits ((2 : Int) ^ n) = n + 1 := by
  have h1 : Builtin.Int.intBits ((2 : Int) ^ n) ≤ n + 1 := bits_le (Int.le_of_lt (pow_pos2 n)) (by rw [Int.pow_succ]; have := pow_pos2 n; lia)
  have h2 : (2 : Int) ^ n < 2 ^ Builtin.Int.intBits ((2 : Int) ^ n) := lt_bits (Int.le_of_lt (pow_pos2 n))
  rcases Nat.lt_or_ge n (Builtin.Int.intBits ((2 : Int) ^ n)) with h | h
  · lia
  · have := pow_mono2 h
    lia
theorem last_count {w c : Nat} (hw : 1 ≤ w) : ((Builtin.Int.intBits (BB w c) : Int) + (w : Int) - 1).fdiv (w : Int) = ((c + 1 : Nat) : Int) := by
  unfold BB
  rw [bits_pow, Int.fdiv_eq_ediv_of_nonneg _ (by lia)]
  have e : ((w * c + 1 : Nat) : Int) + (w : Int) - 1 = (w : Int) * ((c + 1 : Nat) : Int) := by
    rw [Int.natCast_add, Int.natCast_mul, Int.natCast_add, Int.mul_add]; lia
  rw [e, Int.mul_ediv_cancel_left _ (by lia)]
theorem turnW {p0 : List Str} {ps : List (List Str)} {cnt w i : Nat} {xs : List Str} (h : cnt = 3 ∨ cnt = 4) (hl : ps.length = cnt) (hp : ∀ xs ∈ p0 :: ps, xs.length ≤ 2 ∧ ∀ x ∈ xs, BitOk x) (hw : w ≤ 12) (hx : ps[i]? = some xs) :
    ∃ Q, BB w (nC p0) * prd w ps = Q * (BB w (nC xs) + BB w (nT xs)) ∧ 0 ≤ Q ∧ Q ≤ 2 ^ 99 ∧ (powM w (lostAt (rowsOf (p0 :: ps) cnt (2 ^ cnt)) i true)).sum = Q * BB w (nT xs) ∧ (powM w (lostAt (rowsOf (p0 :: ps) cnt (2 ^ cnt)) i false)).sum = Q * BB w (nC xs) := by
  have hi : i < ps.length := (List.getElem?_eq_some_iff.mp hx).1
  have hg : ps.getD i [] = xs := by rw [List.getD_eq_getElem?_getD, hx]; rfl
  have hq := quo_le (ps := ps.eraseIdx i) hw (hp p0 (.head _)).1 (fun ys hy => (hp ys (.tail _ (List.mem_of_mem_eraseIdx hy))).1) (by rw [List.length_eraseIdx_of_lt hi]; lia)
  have h1 := at_val (w := w) h hl hp (k := i) (by lia) true
  have h2 := at_val (w := w) h hl hp (k := i) (by lia) false
  rw [hg] at h1 h2
  refine ⟨_, ?_, hq.1, hq.2, h1, h2⟩
  rw [prd_at w ps i hi, hg, Int.mul_assoc]
  rfl
theorem turnL {p0 : List Str} {ps : List (List Str)} {w i : Nat} {xs : List Str} (hl : ps.length ≤ 4) (hp : ∀ xs ∈ p0 :: ps, xs.length ≤ 2 ∧ ∀ x ∈ xs, BitOk x) (hw : w ≤ 12) (hx : ps[i]? = some xs) :
    BB w (nC p0) * prd w (ps.drop i) = (BB w (nC p0) * prd w (ps.drop (i + 1))) * (BB w (nC xs) + BB w (nT xs)) ∧ 0 ≤ BB w (nC p0) * prd w (ps.drop (i + 1)) ∧ BB w (nC p0) * prd w (ps.drop (i + 1)) ≤ 2 ^ 99 := by
  have hi : i < ps.length := (List.getElem?_eq_some_iff.mp hx).1
  have hq := quo_le (ps := ps.drop (i + 1)) hw (hp p0 (.head _)).1 (fun ys hy => (hp ys (.tail _ (List.mem_of_mem_drop hy))).1) (by rw [List.length_drop]; lia)
  refine ⟨?_, hq.1, hq.2⟩
  have e : ps[i] = xs := (List.getElem?_eq_some_iff.mp hx).2
  rw [List.drop_eq_getElem_cons hi, e, Int.mul_assoc]
  show _ * (fac w xs * _) = _
  rw [Int.mul_comm (fac w xs)]
  rfl
theorem fac2 {w : Nat} {xs : List Str} (hw : w ≤ 12) (h : xs.length ≤ 2) : 2 ≤ BB w (nC xs) + BB w (nT xs) ∧ BB w (nC xs) + BB w (nT xs) < 2 ^ 64 := by
  have h1 := fac_pos w xs
  have h2 := fac_le (p := xs) hw h
  unfold fac at h1 h2
  lia
theorem mulB {w n : Nat} (hw : w ≤ 12) (h : n ≤ 2) : 0 ≤ (w : Int) * (n : Int) ∧ (w : Int) * (n : Int) ≤ 120 := by
  have : w * n ≤ 12 * 2 := Nat.mul_le_mul hw h
  rw [← Int.natCast_mul]
  lia
theorem lostAt_snoc {rows : List (Int × List Int)} {j i : Nat} {b : Bool} {k : Int} {q : List Int} (h : rows[j]? = some (k, q)) : lostAt (rows.take (j + 1)) i b = lostAt (rows.take j) i b ++ (if atQ i q == b then [k] else []) := by
  unfold lostAt
  rw [take_filter (fun r : Int × List Int => atQ i r.2 == b) h, List.map_append]
  congr 1
  show List.map _ (if atQ i q == b then _ else _) = _
  split <;> rfl
theorem rows_qlen {ps : List (List Str)} {cnt n j : Nat} {k : Int} {q : List Int} (h : (rowsOf ps cnt n)[j]? = some (k, q)) : q.length = cnt := by
  unfold rowsOf at h
  rw [List.getElem?_map] at h
  cases hj : (List.range n)[j]? with
  | none => rw [hj] at h; simp at h
  | some st =>
    rw [hj] at h
    have e : rowOf ps cnt st = (k, q) := by simpa using h
    have e2 : (rowOf ps cnt st).2 = q := by rw [e]
    rw [← e2]
    show ((List.range cnt).map _).length = cnt
    simp
theorem atQ_t {i : Nat} {q : List Int} (h : q.getD i 0 ≠ 0) : atQ i q = true := by
  unfold atQ; rw [beq_eq_false_iff_ne.mpr h]; rfl
theorem atQ_f {i : Nat} {q : List Int} (h : q.getD i 0 = 0) : atQ i q = false := by
  unfold atQ; rw [h]; rfl
theorem mulQ {Q : Int} {w n : Nat} (h0 : 0 ≤ Q) (h1 : Q ≤ 2 ^ 99) (hw : w ≤ 12) (hn : n ≤ 2) : IntMulOk Q (BB w n) := by
  have b0 := BB_pos w n
  have b1 := BB_le hw hn
  exact PyProof.Rows.mulOk_of_bits (m := 100) (n := 30) (bits_le h0 (by lia)) (bits_le (by lia) (by lia)) (by decide)

/- what is left of the sum -/
inductive LawI (wd : Nat) (p0 : List Str) (ps : List (List Str)) (U : Led) (DS rR D8 c2 c1 : Addr) (o1 o2 o3 : Obj) (I : Addr) (m₀ : Str → Option Value) (i : Nat) (m : Str → Option Value) (news : Led) : Prop
  | mk (tl : Tok) (t8 : Led) (oK8 oL8 : Obj) (vK8 vL8 : Option Value) (h1 : TB t8) (h2 : Dis U t8) (h3 : oK8.data = Data.cell vK8) (h4 : oL8.data = Data.cell vL8) (h5 : ∀ p ∈ t8, p.1 ≠ I + 1) (h6 : ∀ p ∈ t8, p.1 ≠ I)
    (h7 : Held m₀ [Str.ofString "piece", Str.ofString "bare", Str.ofString "shut", Str.ofString "quotient", Str.ofString "rest", Str.ofString "over", Str.ofString "inside", Str.ofString "outside"] [(Str.ofString "left", .int (BB wd (nC p0) * prd wd (ps.drop i)) tl)] m)
    (h8 : news = (DS, o1) :: (rR, o2) :: (D8, o3) :: (c2, oK8) :: (c1, oL8) :: (U ++ t8))
set_option maxHeartbeats 8000000
set_option pp.deepTerms.threshold 5
theorem law_holds : PySem.Challenge.rw_pg0162_02.Holds := Mine.hd (by
  k_with_none
  k_with "CJ" => (first | exact cj0 (by with_reducible assumption) | exact cj1 (by with_reducible assumption) | exact cj2 (by with_reducible assumption) | exact cj2z (by with_reducible assumption) | exact cj3 (by with_reducible assumption) | exact cj3z (by with_reducible assumption) | exact cj4 (by with_reducible assumption) | exact cj4z (by with_reducible assumption) | exact cj5 (by with_reducible assumption) | exact cj5z (by with_reducible assumption) | exact cj6 (by with_reducible assumption) | exact cj6z (by with_reducible assumption) | exact cj7 (by with_reducible assumption) | exact cj7z (by with_reducible assumption))
  k_with "NE" => ((refine neN ?_; (try dsimp only); first | walk_at "CJ" | exact Ne.symm (by walk_at "CJ") | exact Nat.ne_of_lt (by walk_at "CJ") | exact Nat.ne_of_gt (by walk_at "CJ") | exact neP (by walk_at "CJ") | exact Ne.symm (neP (by walk_at "CJ")) | exact neQ (by decide) | exact neR (by decide) | exact Ne.symm (neR (by decide)) | lia))
  k_with "MEM" => (k_dflt assumption)
  k_with "ALL" => ((refine' TB.off (by assumption) (by k_asm) (by k_mem) (by first | (((intro _ zh9; (repeat (first | exact zh9 | exact List.mem_append_right _ zh9 | refine' List.Mem.tail _ ?_)))); done) | fail) (by first | ((first | (intro _ zh9; cases zh9; done) | (intro _ zh9; simp_all)); done) | fail)))
  k_with "ALL" => (first | assumption | exact ofAllLt (by assumption) | exact ofAllLt (allLt_left (by assumption)) | (refine' forallApp ?_ ?_ <;> k_all))
  k_with "ROOM" => (first | lia | ((try simp only [depth_under_make, depth_under_kw, depth_in1, depth_deeper, depth_caller, recursionLimit, units_in1, units_deeper, Around.mark_units, units_caller, cLine] at *); (try dsimp only [ktrTop] at *); lia))
  k_with "TAILIN" => ((intro _ zh9; (try simp only [List.nil_append] at zh9); (repeat (first | exact zh9 | refine' List.Mem.tail _ ?_))))
  k_with "SUBL" => (((try simp only [List.cons_append, List.nil_append]); (repeat (refine List.forall_mem_cons.mpr ⟨by k_mem, ?_⟩)); first | exact List.forall_mem_nil _ | walk_at "TAILIN"))
  k_with "CX" => (exact ⟨by k_asm, by k_asm, by k_asm, by k_asm, by first | exact rfl | assumption, by assumption, by assumption⟩)
  k_with "APP" => ((repeat (first | exact App.nil | exact App.gen _ _ | apply App.cons)))
  k_with "DIS" => ((repeat (first | exact Dis.nil | assumption | (refine' Dis.cons ?_ ?_; focus (first | assumption | k_all)))))
  k_with "call ref" => ((k_here; k_dflt (refine' spec_d2i (by first | ((walk_at "CX"); done) | fail) (by k_asm) (by assumption) (by first | ((walk_at "APP"); done) | fail) (by first | ((walk_at "DIS"); done) | fail) (by is_list) (by l_ints) (by lia) (by first | ((walk_at "LEN"); done) | fail) (by assumption) (by first | ((walk_at "ROOM"); done) | fail) (by first | ((walk_at "ROOM"); done) | fail) ?_; intro _ _ _ _ _ _ zN9 _; (try simp only [List.cons_append, List.nil_append] at zN9); (try dsimp only); (try k_fold))))
  k_with "call ref" => ((k_here; k_dflt (refine' spec_i2d (by first | ((walk_at "CX"); done) | fail) (by k_asm) (by assumption) (by first | ((walk_at "APP"); done) | fail) (by first | ((walk_at "DIS"); done) | fail) (by lia) (by lia) (by assumption) _ (by assumption) (by lia) (by assumption) (by first | ((walk_at "ROOM"); done) | fail) (by first | ((walk_at "ROOM"); done) | fail) ?_; intro _ _ _ _ _ _ _ _ _ zN9 zhf9 _; (try simp only [List.cons_append, List.nil_append] at zN9); (replace zhf9 := allNe_of zhf9; try simp only [AllNe, and_true] at zhf9); (try dsimp only); (try k_fold))))
  k_with "call ref" => ((k_here; k_dflt (refine' spec_d2n (by first | ((walk_at "CX"); done) | fail) (by k_asm) (by assumption) (by assumption) (by assumption) (by first | ((walk_at "ROOM"); done) | fail) (by first | ((walk_at "ROOM"); done) | fail) ?_; intro _ _ _ _ _ _ _ zhf9; (replace zhf9 := allNe_of zhf9; simp only [AllNe, and_true] at zhf9); (try dsimp only); (try k_fold))))
  k_with "LEN" => (first | lia | ((try simp only [List.length_reverse, List.length_append, List.length_map, List.length_cons, List.length_nil, digs_length]); lia))
  k_with "call builtin:list.append" => ((k_here; k_dflt ((try dsimp only); refine' append_K (by k_asm) (by k_asm) (by k_upd) ?_ (by first | ((first | size_fits | (rw [sizeLine_eq]; simp only [List.size_toArray]; lia)); done) | fail)); intro _ _ zN9; (try simp only [List.push_toArray] at zN9); (try k_sweep)))
  k_with "OFF1" => ((repeat (first | exact List.forall_mem_nil _ | (refine' List.forall_mem_cons.mpr ⟨?_, ?_⟩; focus k_ne) | assumption | exact ofAllLt (by assumption) | k_all)))
  k_with "OFF" => ((refine' offSwap ?_; (repeat (first | exact List.forall_mem_nil _ | (refine' List.forall_mem_cons.mpr ⟨?_, ?_⟩; focus walk_at "OFF1")))))
  k_with "call builtin:list.reverse" => ((k_here; k_dflt ((try dsimp only); refine' kl_reverseU (by k_asm) (by k_asm) (by k_upd) (by exact rev_arr _) (by exact szl (by assumption)) ?_); intro _ _ _; (try k_sweep)))
  k_with "call ref" => ((k_here; k_dflt (refine' spec_dpos (by first | ((walk_at "CX"); done) | fail) (by k_asm) (by assumption) (by first | ((walk_at "APP"); done) | fail) (by first | ((walk_at "DIS"); done) | fail) (by first | ((first | assumption | lia); done) | fail) (by first | ((first | assumption | lia); done) | fail) (by assumption) (by assumption) (by first | ((walk_at "ROOM"); done) | fail) (by first | ((walk_at "ROOM"); done) | fail) ?_; intro _ _ _ _ _ _ _ _ zN9 zhf9 _; (try simp only [List.cons_append, List.nil_append] at zN9); (replace zhf9 := allNe_of zhf9; try simp only [AllNe, and_true] at zhf9); (try dsimp only); (try k_fold))))
  k_with "call ref" => ((k_here; k_dflt (refine' spec_idm (by first | ((walk_at "CX"); done) | fail) (by k_asm) (by assumption) (by first | ((walk_at "APP"); done) | fail) (by first | ((walk_at "DIS"); done) | fail) (by first | ((first | assumption | lia); done) | fail) (by first | ((first | assumption | lia); done) | fail) (by assumption) (by assumption) (by first | ((walk_at "ROOM"); done) | fail) (by first | ((walk_at "ROOM"); done) | fail) ?_; intro _ _ _ _ _ _ _ _ zN9 zhf9 _; (try simp only [List.cons_append, List.nil_append] at zN9); (replace zhf9 := allNe_of zhf9; try simp only [AllNe, and_true] at zhf9); (try dsimp only); (try k_fold))))
  k_with "call type:list" => ((k_here; k_dflt (refine' list_revK (by exact rfl) (by k_asm) (by k_asm) (by first | ((first | k_all | fail); done) | fail) (by is_list) (by l_ints) (by first | ((walk_at "LEN"); done) | fail) ?_; intro _ _ _ _ _ _ _ _ _; (try k_sweep))))
  k_with "call builtin:len" => ((k_here; k_dflt (refine' len_ints (by is_list) (by l_ints) (by first | ((first | exact digs_length _ _ _ | exact rfl); done) | fail) (by lia) ?_; (try dsimp only))))
  k_with "SUMLEN" => (((try simp only [digs_length, List.length_append, List.length_reverse, List.length_map]); (simp only [sizeLine_eq]); first | lia | (rename_i e2' e3'; simp_all; lia)))
  k_with "binaryOp Add ref ref" => ((k_here; (with_reducible show wpAny _ _ (binaryOp _ (Value.ref _) (Value.ref _)) _ _ _); k_dflt ((try dsimp only); refine' kmk_add_ints (by k_asm) (by k_asm) (by kmk_list) (by kmk_list) (by l_ints) (by l_ints) ?_ (by first | ((first | walk_at "SUMLEN" | fail); done) | fail)); intro _ _ _ _ _ zl1 _; (try k_lt zl1); (try k_sweep)))
  k_with "TAILIN1" => ((repeat (first | assumption | refine' List.Mem.tail _ ?_)))
  k_with "MEMU" => ((repeat (first | exact List.mem_append_left _ (by assumption) | refine' List.Mem.tail _ ?_)))
  k_with "subscriptTail" => ((k_here; (with_reducible show wpAny _ _ (subscriptTail (PySem.Expr.List _ _) (PySem.Expr.Slice _ _ none _) (Value.ref _) (Value.ref _)) _ _ _); (k_dflt (refine kba_turn (value' := PySem.Expr.Name (PySem.Str.ofString "_") ⟨0, 0, 0, 0⟩) (fun _ => rfl) ?_)); k_dflt (refine' kmk_slice_ints (by k_asm) (by k_asm) (by kmk_list) (by kmk_part) (by kmk_part) (by l_ints) (by exact kmk_from (by l_ints) (by lia)) (by exact List.length_drop ..) ?_ (by with_unfolding_all rfl) (by kmk_pure) (by exact Nat.le_of_ble_eq_true rfl)); intro _ _ _ _ _ zl1 _ _ _; (try dsimp only); (try k_lt zl1); (try k_sweep)))
  k_with "call ref" => ((refine' stopHere ?_))
  k_with "pyIter ref" => ((refine' stopHere ?_))
  k_with "CompSrc" => ((k_here; (with_reducible show LCg.CompSrc _ _ _ _ _ _ _ (Expr.Call _ _ _ _) _ _ _ _ _ _); refine' stopHere ?_))
  k_with "eval ListComp" => ((k_here; first
  | ((with_reducible show wpAny _ _ (eval (Expr.ListComp _ [⟨Expr.Name _ _, _, [], 0⟩] _ _) _) _ _ _); k_dflt (refine LCg.ListComp_U (F₀ := by k_asm) (by with_unfolding_all rfl) (by decide) (by rfl) (by decide) (by rfl) ?_))
  | k_dflt (refine ListComp_G (by k_asm) (by with_unfolding_all rfl) (by decide) (by rfl) (by decide) ?_)))
  k_with "exec Assign cons ListComp" => ((k_here; (with_reducible show wpAny _ _ (exec (Stmt.Assign _ (Expr.ListComp _ [⟨Expr.Tuple _ _ _, _, _, 0⟩] _ _) _) _) _ _ _); refine wpAny_Assign_Name ?_))
  k_with "compareOp Eq ref ref" => ((k_here; k_dflt (refine' SeqAt.eq_list_lengthsAt (by is_list) (by is_list) (by assumption) (by first | ((first | units_room | exact Nat.le_of_ble_eq_true rfl); done) | fail) ?_)))
  k_with "storeName" => (((with_reducible show wpAny _ _ (storeName _ _ (Value.int ((3 : Int) + _) _)) _ _ _); refine' store3 ?_; intro cnt h34))
  k_with "storeName" => (((with_reducible show wpAny _ _ (storeName _ _ (Value.int ((5 : Int) + _) _)) _ _ _); refine' store5 ?_; intro wd hw5 hw12))
  k_with "ALL" => ((refine' TB.off (by assumption) (by k_asm) (by k_mem) (by first | (((intro _ zh9; (repeat (first | exact zh9 | exact List.mem_append_right _ zh9 | refine' List.Mem.tail _ ?_)))); done) | fail) (by exact cellNe (by with_reducible assumption))))
  k_with "subscriptTail" => ((k_here; (with_reducible show wpAny _ _ (subscriptTail (PySem.Expr.Name (Str.ofString "quoted") _) _ (Value.ref _) (Value.int _ _)) _ _ _); (refine' item_list_intsR hbl hiq (by lia) (by lia) (by lia) ?_); intro tq))
  k_with "binaryOp Mult int int" => ((k_here; (with_reducible show wpAny _ _ (binaryOp _ (Value.int _ _) (Value.int (BB _ _) _)) _ _ _); (refine PyProof.Rows.mul_int ?_ (by first | exact hmS | exact hmC))))
  k_with "call type:enumerate" => ((refine' stopHere ?_))
  k_with "subscriptTail Name Slice ref ref" => ((k_here; (with_reducible show wpAny _ _ (subscriptTail _ (PySem.Expr.Slice (some (Expr.Constant _ _ _)) none none _) (Value.ref _) (Value.ref _)) _ _ _); k_dflt (refine' kmk_slice_lit (by k_asm) (by k_asm) (by kmk_list) (by kmk_part) (by kmk_part) (by exact slice1 _ _) ?_ (by with_unfolding_all rfl) (by kmk_pure) (by first | (((rw [sizeLine_eq]; simp only [List.size_toArray, List.length_cons]; lia)); done) | fail)); intro DS hS9 FS9 NS9 lS; (try k_lt lS); (try k_sweep)))
  k_with "exec For Tuple Call cons nil" => ((k_here; (rename Fr _ _ _ _ => zlF9); (with_unfolding_all refine' For_turns zlF9 ?_ (fun _ => rfl) PassesOwn.never)))
  k_with "storeName" => (((with_reducible show wpAny _ _ (storeName _ (Str.ofString "bare") _) _ _ _); rw [eB]))
  k_with "storeName" => (((with_reducible show wpAny _ _ (storeName _ (Str.ofString "shut") _) _ _ _); rw [eS]))
  k_with "call builtin:len" => ((k_here; k_dflt (refine' len_txts (by is_list) (by assumption) rfl (by lia) ?_); (try dsimp only)))
  k_with "compareOp NotEq ref ref" => ((refine' stopHere ?_))
  k_go0
  (all_goals try k_fold)
  refine wpAny_mono (E := fun _ _ => False) ?_ (fun _ _ h => h) (fun _ _ h => h.elim)
  refine holdQ ?_
  intro QR hQR
  k_steps
  refine' Stop.go ?_
  rename Shared => s1
  rename_i DP vP hX Fw Nw hSL hC9 hL9 l9
  have cA : CodeHd _ 41 37 := ‹CodeHd _ (41, 37).fst (41, 37).snd›
  have cB : CodeHd _ 34 30 := ‹CodeHd _ (34, 30).fst (34, 30).snd›
  refine hide ?_
  intro Z hZ
  obtain ⟨ms, oK, oL, vK, vL, base, hbase, N1, hm9, hms, hml, hmb, dK, dL⟩ := lawNews Nw hSL h34 ‹Obj.data _ = Data.cell (bindC _ _ _ (Str.ofString "k"))› ‹Obj.data _ = Data.cell (bindC _ _ _ (Str.ofString "losses"))› (by first | walk_at "SUBL" | fail)
  refine hZ ?_
  clear hZ Z
  clear Nw hSL hC9 hL9 l9
  have hc4 : cnt ≤ 4 := by lia
  have hvl : vP.length = cnt + 1 := by rw [hms.length, hml]
  k_dflt refine LCg.CompSrc.ledger (by rfl) (by k_asm) N1 hm9 (by rw [sizeLine_eq]; simp only [List.size_toArray]; lia) ?_
  intro g9
  refine comp_grow (n := vP.toArray.size) (fun i ys nw => ∃ fl pss, nw = fl ++ base ∧ Pls fl ys pss ∧ pss.length = i ∧ (∀ xs ∈ pss, xs.length ≤ 2 ∧ ∀ x ∈ xs, BitOk x) ∧ (∀ p ∈ fl, ∀ q ∈ base, q.1 ≠ p.1)) ?fin ?step _ 0 [] _ (Nat.zero_add _) ?h0
  case h0 => exact ⟨[], [], rfl, .nil, rfl, (fun _ h => nomatch h), fun _ h => nomatch h⟩
  case step =>
    intro i v hiv I9 oI C9 oC D9 m₂ h8 tk8 E8 ys nw hP9 hC hx F8 N8 hz0 off
    refine hide ?_
    intro Z hZ
    obtain ⟨fl, pss, rfl, hPl, hpi, hpb, hfo⟩ := hz0
    obtain ⟨x, t9, hz, rfl⟩ := intsGetK hms (by simpa using hP9)
    have hxb := hmb x (List.mem_of_getElem? hz)
    refine hZ ?_
    clear hZ Z
    (try dsimp only)
    k_steps
    refine' Stop.go ?_
    k_here
    k_dflt refine' spec_pie ?cx ?N ?hn0 ?hn1 ?hdp ?hun ?_
    case cx => walk_at "CX"
    case N => k_asm
    case hn0 => exact hxb.1
    case hn1 => exact hxb.2
    case hdp => decide
    case hun => decide
    intro rP vP2 xP epP hP tkP hT hpl2 hpb2 FP NP hfP
    refine ⟨_, _, (rP, W.listOf vP2.toArray epP) :: (fl ++ base), rfl, FP, newsSub NP (by first | walk_at "SUBL" | fail), ?o, .inr ⟨_, .tail _ (List.mem_append_right _ hm9), rfl, _, rfl⟩, ?j⟩
    case o => exact List.forall_mem_cons.mpr ⟨⟨(hfP _ (.head _)).symm, (hfP _ (.tail _ (.head _))).symm, (hfP _ (.tail _ (.tail _ (.head _)))).symm⟩, off⟩
    case j =>
      refine ⟨(rP, _) :: fl, pss ++ [xP], rfl, (hPl.more fun p hp => .tail _ hp).snoc (.head _) hT, by rw [List.length_append, hpi]; rfl, ?zpb, ?zpf⟩
      case zpb => exact fun xs hx => (List.mem_append.mp hx).elim (hpb xs) fun h => by rw [List.mem_singleton.mp h]; exact ⟨hpl2, hpb2⟩
      case zpf => exact List.forall_mem_cons.mpr ⟨fun q hq => hfP q (.tail _ (.tail _ (.tail _ (List.mem_append_right _ hq)))), hfo⟩
  case fin =>
    intro ys nw hz0
    refine hide ?_
    intro Z hZ
    obtain ⟨fl, pss, rfl, hPl, hpi, hpb, hfo⟩ := hz0
    refine hZ ?_
    clear hZ Z
    unfold LCg.FinA
    intro D8 h8 tk8 F8 N8 o8
    have o8 := off1_mem o8
    (try dsimp only)
    k_steps
    refine' Stop.go ?_
    have hps1 : pss.length = cnt + 1 := by rw [hpi, List.size_toArray, hvl]
    k_here
    k_dflt refine' spec_row (pv := ys) (ps := pss) (cnt := cnt) ?zcx ?zN ?zd ?zp ?zq ?zc1 ?zpl ?zdp ?zun ?_
    case zcx => walk_at "CX"
    case zN => exact N8
    case zd => is_list
    case zp => exact Pls.pcs N8 (hPl.more fun p hp => .tail _ (List.mem_append_left _ hp))
    case zq => exact hpb
    case zc1 => exact hc4
    case zpl => exact hps1
    case zdp => decide
    case zun => decide
    intro rR vR epR flR hR tkR hRw FR NR r1 r2 r3
    refine hide ?_
    intro Z hZ
    obtain ⟨U, t, htb, N2, hU1, hU2, u1, u2, u3, u4, hUd, a1, a2, a3, a4, a5⟩ := lawNews2 NR hbase r1 r2 r3 o8 hfo
    replace hRw := hRw.more hU1
    replace hPl := hPl.more hU2
    clear NR N8 F8 r1 r2 r3 o8 hfo hU1 hU2 hbase hm9 N1
    obtain ⟨p0, ps, hpe⟩ : ∃ p0 ps, pss = p0 :: ps := by
      cases pss with
      | nil => simp at hps1
      | cons a r => exact ⟨a, r, rfl⟩
    subst hpe
    have hpl : ps.length = cnt := by simpa using hps1
    obtain ⟨a0, v0, e0, vs1, rfl, hl0, ht0, hPr⟩ := hPl.out
    clear hPl hpi
    obtain ⟨hvR, hne9⟩ := rws_len hRw h34
    refine hZ ?_
    clear hZ Z
    have hpl4 : ps.length ≤ 4 := by lia
    have hvs1 : vs1.length = cnt := by rw [hPr.length, hpl]
    (try dsimp only)
    (try k_fold)
    iterate 15 (first | walk1 | (dsimp only; walk1))
    walk_at "exec Assign cons ListComp"
    k_steps
    refine' Stop.go ?_
    rename News _ _ _ _ => N3
    have N4 := newsSub (l' := (rR, W.listOf vR.toArray epR) :: (D8, LCg.lst (Value.ref a0 :: vs1)) :: (_, oK) :: (_, oL) :: (U ++ t)) N3 (by first | walk_at "SUBL" | fail)
    clear N3
    k_dflt refine' listG_comp (vs := vR) (keep := [(rR, W.listOf vR.toArray epR)]) ?zhh ?zF ?zN ?zk ?zl (.inl ⟨_, .head _⟩) ?zsz (fun i m₂ => RowB U (rowsOf (p0 :: ps) cnt (2 ^ cnt)) i m₂) ?zas (fun i ys gr => gr = [] ∧ IntsAre ys ((lostOf (rowsOf (p0 :: ps) cnt (2 ^ cnt))).take i)) ?zh0 ?zst ?zfi
    case zhh => exact rfl
    case zF => k_asm
    case zN => exact N4
    case zk => exact fun p hp => by rw [List.mem_singleton.mp hp]; exact .head _
    case zl => is_list
    case zsz => rw [sizeLine_eq]; lia
    case zas =>
      intro C i v s9 m9 Q9 E9 hv hns hnw _ hQ9
      exact asg_row rfl hRw (fun p hp => hnw p (.tail _ (.tail _ (.tail _ (.tail _ (List.mem_append_left _ hp)))))) rfl rfl rfl hv hns hQ9
    case zh0 => exact ⟨rfl, .nil⟩
    case zst =>
      intro I lI C oC D2 i ys gr m₂ H tkH E' hi hyl hB hC hz0 F9 hCD off9
      refine hide ?_
      intro Z hZ
      obtain ⟨rfl, hT⟩ := hz0
      obtain ⟨k9, t9, b9, v9, e9, q9, hrow, hbU, hiq, hm1, hm2⟩ := hB
      refine hZ ?_
      clear hZ Z
      refine AllObj.cons (w := (_, _)) fun it hit => AllObj.nil ?_
      intro hio1 hio2 N9
      simp only [List.cons_append, List.nil_append] at N9
      refine wpAny_tests_nil ?_
      simp only [if_true]
      (try dsimp only)
      (try k_fold)
      k_steps
      refine ⟨_, _, [], rfl, by k_asm, by (simp only [List.cons_append, List.nil_append]; k_asm), (fun p hp => ⟨hio2 p hp, (off9 p hp).1, (off9 p hp).2⟩), rfl, ?_⟩
      unfold lostOf at hT ⊢
      rw [map_take_snoc _ hrow]
      exact hT.append (.cons _ _ .nil)
    case zfi =>
      intro h'
      intro D3 H3 tk3 ts gr F9 N9 off3 hz0
      refine hide ?_
      intro Z hZ
      obtain ⟨rfl, hT⟩ := hz0
      refine hZ ?_
      clear hZ Z
      have hlo : IntsAre ts (lostOf (rowsOf (p0 :: ps) cnt (2 ^ cnt))) := by
        rw [hRw.length, List.take_of_length_le (by simp [lostOf])] at hT
        exact hT
      simp only [List.nil_append] at N9 off3
      replace off3 := allNe_of off3
      simp only [AllNe, and_true] at off3
      clear hT N4
      (try dsimp only)
      (try k_fold)
      k_steps
      refine' Stop.go ?_
      k_dflt refine LCg.CompSrc.range (n := 11) (by rfl) (by k_asm) (by k_asm) (by assumption) (range_small (by decide) (by decide)) (range_n rfl) (by rw [sizeLine_eq]; decide) ?_
      intro g7
      have hll := hlo.length
      have hl16 := lost_len (p0 := p0) (ps := ps) h34
      refine comp_mapN (n := 11) (fun j y => ∃ t, y = Value.int (((lostOf (rowsOf (p0 :: ps) cnt (2 ^ cnt))).count ((j : Nat) : Int) : Nat) : Int) t) ?zS ?zfin ?zstep _ 0 [] (Nat.zero_add _) rfl (fun j y h => by simp at h)
      case zS => exact True.intro
      case zstep =>
        intro k v hik I7 oI C7 oC D7 m₂ h7 tk7 E7 ys2 hP7 hC hx F7 N7 off ne
        obtain ⟨t8, rfl⟩ := hP7
        (try simp only [LCg.Off3, and_true] at off)
        (try dsimp only)
        k_steps
        all_goals first | assumption | k_asm | exact rfl | exact newsSub (by assumption) (by walk_at "SUBL") | (rw [Int.zero_add])
      case zfin =>
        intro ys2 hl2 hr2
        have hcv : IntsAre ys2 (cntV (lostOf (rowsOf (p0 :: ps) cnt (2 ^ cnt)))) := intsOf (by rw [hl2, cntV_length]) (fun k y hy => by
          obtain ⟨t, rfl⟩ := hr2 k y hy
          have hk := (List.getElem?_eq_some_iff.mp hy).1
          exact ⟨_, t, by unfold cntV; rw [List.getElem?_map, List.getElem?_range (by lia)]; rfl, rfl⟩)
        unfold LCg.FinE
        intro D7 h7 tk7 F7 N7 o7
        (try simp only [LCg.Off1, and_true] at o7)
        clear hr2
        (try dsimp only)
        k_steps
        refine' Stop.go ?_
        k_here
        k_dflt refine' spec_d2i ?acx ?aN ?atb ?aap ?aow ?ad ?ai ?an ?al ?as ?adp ?aun ?_
        case acx => walk_at "CX"
        case aN => k_asm
        case atb => exact htb
        case aap => walk_at "APP"
        case aow => first | walk_at "DIS" | fail
        case ad => is_list
        case ai => exact hcv
        case an => lia
        case al => rw [cntV_length]; decide
        case as => exact cntV_range hw5 hl16
        case adp => decide
        case aun => decide
        intro tkw t9 hW tkW htb9 FW NW hd9
        rw [whole_val h34 hpl hpb]
        simp only [List.cons_append, List.nil_append] at NW
        have hU9 : Dis U t9 := dis_sub hd9 (by first | walk_at "SUBL" | fail)
        clear htb hUd hd9
        (try dsimp only)
        (try k_fold)
        k_steps
        refine' Stop.go ?_
        rename News _ _ _ _ => N5
        have N6 := newsSub (l' := (DS, W.listOf vs1.toArray 0) :: (rR, W.listOf vR.toArray epR) :: (D8, LCg.lst (Value.ref a0 :: vs1)) :: (s1.heap.objs.size + 1 + 1, oK) :: (s1.heap.objs.size + 1, _) :: (U ++ t9)) N5 (by first | walk_at "SUBL" | fail)
        clear N5
        --MARK1
        k_dflt refine' enum_turns (vs := vs1) (n := 0) ?lhh ?lF ?lN ?lm ?lc ?ld (fun I m₀ i m news => LawI wd p0 ps U DS rR D8 (s1.heap.objs.size + 1 + 1) (s1.heap.objs.size + 1) (W.listOf vs1.toArray 0) (W.listOf vR.toArray epR) (LCg.lst (Value.ref a0 :: vs1)) I m₀ i m news) ?lstart ?lstep ?ldone
        case lhh => exact rfl
        case lF => k_asm
        case lN => exact N6
        case lm => exact .head _
        case lc => exact rfl
        case ld => exact rfl
        case lstart =>
          intro I hI
          refine' ⟨_, t9, oK, _, _, _, htb9, hU9, dK, ?ld9, (fun p hp => Nat.ne_of_lt (Nat.lt_succ_of_lt (hI p (.tail _ (.tail _ (.tail _ (.tail _ (.tail _ (List.mem_append_right _ hp))))))))), (fun p hp => Nat.ne_of_lt (hI p (.tail _ (.tail _ (.tail _ (.tail _ (.tail _ (List.mem_append_right _ hp)))))))), ⟨?lh, fun z g1 g2 => rfl⟩, rfl⟩
          case ld9 => assumption
          case lh => exact fun p hp => by rw [List.mem_singleton.mp hp]; exact rfl
        case lstep =>
          intro I lI i v m9 news9 hv hz0 T tT H tkH hTup F9
          refine hide ?_
          intro Z hZ
          obtain ⟨tl, t8, oK8, oL8, vK8, vL8, htb8, hU8, dK8, dL8, hI1, hI2, hH, rfl⟩ := hz0
          obtain ⟨ap, vp, xs, ep, hxs, rfl, hmp, htp⟩ := hPr.get hv
          obtain ⟨hxl, hxb⟩ := hpb xs (.tail _ (List.mem_of_getElem? hxs))
          have hilt : i < cnt := by
            have := (List.getElem?_eq_some_iff.mp hxs).1
            lia
          obtain ⟨Q1, eW, hQ0, hQ1, ein, eout⟩ := turnW h34 hpl hpb hw12 hxs
          obtain ⟨eL, hL0, hL1⟩ := turnL (w := wd) hpl4 hpb hw12 hxs
          obtain ⟨hf2, hf64⟩ := fac2 hw12 hxl
          refine hZ ?_
          clear hZ Z
          have hmc : 0 ≤ (wd : Int) * (((xs.filter lastC).length : Nat) : Int) ∧ (wd : Int) * (((xs.filter lastC).length : Nat) : Int) ≤ 120 := mulB hw12 (nC_le hxl)
          have hmt : 0 ≤ (wd : Int) * (((xs.filter twoS).length : Nat) : Int) ∧ (wd : Int) * (((xs.filter twoS).length : Nat) : Int) ≤ 120 := mulB hw12 (nT_le hxl)
          have eB : (2 : Int) ^ ((wd : Int) * (((xs.filter lastC).length : Nat) : Int)).toNat = BB wd (nC xs) := pw_nat wd (nC xs)
          have eS : (2 : Int) ^ ((wd : Int) * (((xs.filter twoS).length : Nat) : Int)).toNat = BB wd (nT xs) := pw_nat wd (nT xs)
          have hfl : (xs.filter twoS).length ≤ 2 := nT_le hxl
          have hmS := mulQ (w := wd) hQ0 hQ1 hw12 (nT_le hxl)
          have hmC := mulQ (w := wd) hQ0 hQ1 hw12 (nC_le hxl)
          have F9 := hH.fr F9
          refine AllObj.cons (w := (_, _)) fun z1 hz1 => AllObj.cons (w := (_, _)) fun z2 hz2 => AllObj.nil ?_
          intro N9
          simp only [List.cons_append, List.nil_append] at N9
          refine holdT ?_
          intro QT hQT
          have i1 : @LT.lt Nat _ DS I := lI _ (.head _)
          have i2 : @LT.lt Nat _ rR I := lI _ (.tail _ (.head _))
          have i3 : @LT.lt Nat _ D8 I := lI _ (.tail _ (.tail _ (.head _)))
          have i4 : @LT.lt Nat _ (s1.heap.objs.size + 1 + 1) I := lI _ (.tail _ (.tail _ (.tail _ (.head _))))
          have i5 : @LT.lt Nat _ (s1.heap.objs.size + 1) I := lI _ (.tail _ (.tail _ (.tail _ (.tail _ (.head _)))))
          have iU2 : ∀ p ∈ U, p.1 ≠ I := fun p hp => Nat.ne_of_lt (lI p (.tail _ (.tail _ (.tail _ (.tail _ (.tail _ (List.mem_append_left _ hp)))))))
          have iU1 : ∀ p ∈ U, p.1 ≠ I + 1 := fun p hp => Nat.ne_of_lt (Nat.lt_succ_of_lt (lI p (.tail _ (.tail _ (.tail _ (.tail _ (.tail _ (List.mem_append_left _ hp))))))))
          clear lI N6 htb9 hU9 dK
          (try dsimp only)
          (try k_fold)
          --MARK2
          k_steps
          refine' Stop.go ?_
          --MARK3
          rename News _ _ _ _ => Nb
          k_here
          k_dflt refine' spec_com (xs := xs) ?bcx ?bN ?bd ?bt ?bb ?bl ?bdp ?bun ?_
          case bcx => walk_at "CX"
          case bN => exact Nb
          case bd => exact ⟨_, (Nb (ap, W.listOf vp.toArray ep) (by repeat (first | exact List.mem_append_left _ hmp | refine' List.Mem.tail _ ?_))).1, rfl, _, rfl⟩
          case bt => exact htp
          case bb => exact hxb
          case bl => lia
          case bdp => decide
          case bun => decide
          intro tc hc tkc Fc Nc
          (try dsimp only)
          (try k_fold)
          k_steps
          refine' Stop.go ?_
          --MARK4
          rename News _ _ _ _ => Nd
          k_dflt refine' listG_comp (vs := vp) (keep := [(ap, W.listOf vp.toArray ep)]) ?chh ?cF ?cN ?ck ?cl (.inl ⟨_, .head _⟩) ?csz (fun j m₂ => ∃ v, vp[j]? = some v ∧ m₂ (Str.ofString "bit") = some v) ?cas (fun j ys gr => gr = [] ∧ Txts ys ((xs.take j).filter twoS)) ?ch0 ?cst ?cfi
          case chh => exact rfl
          case cF => k_asm
          case cN => exact Nd
          case ck => exact fun p hp => by rw [List.mem_singleton.mp hp]; repeat (first | exact List.mem_append_left _ hmp | refine' List.Mem.tail _ ?_)
          case cl => exact ⟨_, (Nd (ap, W.listOf vp.toArray ep) (by repeat (first | exact List.mem_append_left _ hmp | refine' List.Mem.tail _ ?_))).1, rfl, _, rfl⟩
          case csz => rw [sizeLine_eq, htp.length]; lia
          case cas =>
            intro C j v s9 m' Q9 E9 hv hns _ _ hQ9
            exact asg_name rfl rfl hns fun h' tk m₂ a b c => hQ9 h' tk m₂ a ⟨v, hv, b⟩ c
          case ch0 => exact ⟨rfl, .nil⟩
          case cst =>
            intro I3 lI3 C oC D j ys gr m₂ H3 tk3 E3 hj hyl hz0 hC hz1 F3 hCD off3
            refine hide ?_
            intro Z hZ
            obtain ⟨v, hv3, hm3⟩ := hz0
            obtain ⟨rfl, hT3⟩ := hz1
            obtain ⟨x, t3, hx, rfl⟩ := htp.get hv3
            refine hZ ?_
            clear hZ Z
            have hbx := hxb x (List.mem_of_getElem? hx)
            refine AllObj.cons (w := (_, _)) fun it hit => AllObj.nil ?_
            intro hio1 hio2 N3
            simp only [List.cons_append, List.nil_append] at N3
            refine wpAny_tests_one ?_
            have hfil := take_filter twoS hx
            rcases hbx with rfl | rfl | rfl | rfl
            all_goals (
              (try dsimp only)
              (try k_fold)
              k_steps)
            all_goals (
              refine ⟨_, _, [], rfl, by k_asm, by (simp only [List.cons_append, List.nil_append]; k_asm), (fun p hp => ⟨hio2 p hp, (off3 p hp).1, (off3 p hp).2⟩), rfl, ?_⟩
              rw [hfil]
              first | (rw [if_neg (by decide), List.append_nil]; exact hT3) | (rw [if_pos (by decide)]; exact hT3.append1 _ _))
          case cfi =>
            intro h'
            intro D4 H4 tk4 ys4 gr F4 N4 off4 hz0
            refine hide ?_
            intro Z hZ
            obtain ⟨rfl, hT4⟩ := hz0
            refine hZ ?_
            clear hZ Z
            rw [htp.length, List.take_length] at hT4
            simp only [List.nil_append] at N4 off4
            replace off4 := allNe_of off4
            simp only [AllNe, and_true] at off4
            clear Nd
            (try dsimp only)
            (try k_fold)
            k_steps
            refine' Stop.go ?_
            --MARK5
            have hW0 : 0 ≤ BB wd (nC p0) * prd wd ps := by rw [eW]; exact Int.mul_nonneg hQ0 (by lia)
            have hW1 := div_bits hQ0 hQ1 hf2
            rw [← eW] at hW1
            have e1 : Int.fdiv (BB wd (nC p0) * prd wd ps) (BB wd (nC xs) + BB wd (nT xs)) = Q1 := by rw [eW]; exact (div_exact (by lia)).1
            have e2 : Int.fmod (BB wd (nC p0) * prd wd ps) (BB wd (nC xs) + BB wd (nT xs)) = 0 := by rw [eW]; exact (div_exact (by lia)).2
            k_here
            k_dflt refine' spec_idm ?Wcx ?WN ?Wtb ?Wap ?Wow ?Wx ?Wb ?Wb2 ?Wxb ?Wdp ?Wun ?_
            case Wcx => walk_at "CX"
            case WN => k_asm
            case Wtb => exact htb8
            case Wap => walk_at "APP"
            case Wow => first | walk_at "DIS" | fail
            case Wx => exact hW0
            case Wb => lia
            case Wb2 => exact hf64
            case Wxb => exact hW1
            case Wdp => decide
            case Wun => decide
            intro r1 tA tB t10 h10 tk10 htb10 F10 N10 hr10 hd10
            rw [e1, e2] at N10
            simp only [List.cons_append, List.nil_append] at N10
            replace hr10 := allNe_of hr10
            simp only [AllNe, and_true] at hr10
            have hU10 : Dis U t10 := dis_sub hd10 (by first | walk_at "SUBL" | fail)
            have hI10 : ∀ p ∈ t10, p.1 ≠ I + 1 := hd10 (I + 1, z1) (by first | k_mem | fail)
            have hI11 : ∀ p ∈ t10, p.1 ≠ I := hd10 (I, z2) (by first | k_mem | fail)
            clear htb8 hU8 hI1 hI2 hd10 hW0 hW1 e1 e2
            (try dsimp only)
            (try k_fold)
            k_steps
            refine' Stop.go ?_
            --MARK6
            have hM0 : 0 ≤ BB wd (nC p0) * prd wd (ps.drop i) := by rw [eL]; exact Int.mul_nonneg hL0 (by lia)
            have hM1 := div_bits hL0 hL1 hf2
            rw [← eL] at hM1
            have e3 : Int.fdiv (BB wd (nC p0) * prd wd (ps.drop i)) (BB wd (nC xs) + BB wd (nT xs)) = BB wd (nC p0) * prd wd (ps.drop (i + 1)) := by rw [eL]; exact (div_exact (by lia)).1
            have e4 : Int.fmod (BB wd (nC p0) * prd wd (ps.drop i)) (BB wd (nC xs) + BB wd (nT xs)) = 0 := by rw [eL]; exact (div_exact (by lia)).2
            k_here
            k_dflt refine' spec_idm ?Lcx ?LN ?Ltb ?Lap ?Low ?Lx ?Lb ?Lb2 ?Lxb ?Ldp ?Lun ?_
            case Lcx => walk_at "CX"
            case LN => k_asm
            case Ltb => exact htb10
            case Lap => walk_at "APP"
            case Low => first | walk_at "DIS" | fail
            case Lx => exact hM0
            case Lb => lia
            case Lb2 => exact hf64
            case Lxb => exact hM1
            case Ldp => decide
            case Lun => decide
            intro r2 tC tD t11 h11 tk11 htb11 F11 N11 hr11 hd11
            rw [e3, e4] at N11
            simp only [List.cons_append, List.nil_append] at N11
            replace hr11 := allNe_of hr11
            simp only [AllNe, and_true] at hr11
            have hU11 : Dis U t11 := dis_sub hd11 (by first | walk_at "SUBL" | fail)
            have hI12 : ∀ p ∈ t11, p.1 ≠ I + 1 := hd11 (I + 1, z1) (by first | k_mem | fail)
            have hI13 : ∀ p ∈ t11, p.1 ≠ I := hd11 (I, z2) (by first | k_mem | fail)
            clear htb10 hU10 hI10 hI11 hd11 hM0 hM1 e3 e4
            (try dsimp only)
            (try k_fold)
            k_steps
            refine' Stop.go ?_
            --MARK7A
            rename News _ _ _ _ => Ng
            k_dflt refine' listG_comp (vs := vR) (keep := [(rR, W.listOf vR.toArray epR)]) ?ghh ?gF ?gN ?gk ?gl (.inl ⟨_, .head _⟩) ?gsz (fun j m₂ => RowB U (rowsOf (p0 :: ps) cnt (2 ^ cnt)) j m₂) ?gas (fun j ys gr => gr = [] ∧ IntsAre ys (lostAt ((rowsOf (p0 :: ps) cnt (2 ^ cnt)).take j) i true)) ?gh0 ?gst ?gfi
            case ghh => exact rfl
            case gF => k_asm
            case gN => exact Ng
            case gk => exact fun p hp => by rw [List.mem_singleton.mp hp]; first | k_mem | fail
            case gl => is_list
            case gsz => rw [sizeLine_eq]; lia
            case gas =>
              intro C j v s9 m' Q9 E9 hv9 hns hnw _ hQ9
              exact asg_row rfl hRw (fun p hp => hnw p (by repeat (first | exact List.mem_append_left _ hp | refine' List.Mem.tail _ ?_))) rfl rfl rfl hv9 hns hQ9
            case gh0 => exact ⟨rfl, .nil⟩
            case gst =>
              intro I3 lI3 C oC D j ys gr m₂ H3 tk3 E3 hj hyl hB3 hC hz1 F3 hCD off3
              refine hide ?_
              intro Z hZ
              obtain ⟨rfl, hT3⟩ := hz1
              obtain ⟨k9, tz, b9, v9, e9, q9, hrow, hbU, hiq, hm1, hm2⟩ := hB3
              have hq9 := rows_qlen hrow
              have hsn := lostAt_snoc (i := i) (b := true) hrow
              refine hZ ?_
              clear hZ Z
              refine AllObj.cons (w := (_, _)) fun it hit => AllObj.nil ?_
              intro hio1 hio2 N3
              simp only [List.cons_append, List.nil_append] at N3
              have hbl : H3.IsList b9 v9.toArray := ⟨_, (N3 (b9, W.listOf v9.toArray e9) (by repeat (first | exact List.mem_append_left _ hbU | refine' List.Mem.tail _ ?_))).1, rfl, _, rfl⟩
              refine wpAny_tests_one ?_
              (try dsimp only)
              (try k_fold)
              k_steps
              --MARK7
              all_goals (
                refine ⟨_, _, [], rfl, by k_asm, by (simp only [List.cons_append, List.nil_append]; k_asm), (fun p hp => ⟨hio2 p hp, (off3 p hp).1, (off3 p hp).2⟩), rfl, ?_⟩
                rw [hsn]
                first | (rw [atQ_t (by assumption)]; exact hT3.append (.cons _ _ .nil)) | (rw [atQ_f (by assumption)]; exact hT3.append (.cons _ _ .nil)) | (rw [atQ_t (by assumption)]; simpa using hT3) | (rw [atQ_f (by assumption)]; simpa using hT3))
            case gfi =>
              intro h'
              intro D5 H5 tk5 ys5 gr F5 N5 off5 hz0
              refine hide ?_
              intro Z hZ
              obtain ⟨rfl, hT5⟩ := hz0
              refine hZ ?_
              clear hZ Z
              rw [hRw.length, List.take_length] at hT5
              simp only [List.nil_append] at N5 off5
              replace off5 := allNe_of off5
              simp only [AllNe, and_true] at off5
              clear Ng
              (try dsimp only)
              (try k_fold)
              k_steps
              refine' Stop.go ?_
              k_here
              k_dflt refine' spec_pow (ls := lostAt (rowsOf (p0 :: ps) cnt (2 ^ cnt)) i true) ?p1 ?p2 ?p3 ?p4 ?p5 ?p6 ?p7 ?p8 ?p9 ?_
              case p1 => walk_at "CX"
              case p2 => k_asm
              case p3 => is_list
              case p4 => exact hT5
              case p5 => exact fun y hy => lost_le h34 hpl hpb y (lostAt_sub y hy)
              case p6 => exact Nat.le_trans lostAt_len (by lia)
              case p7 => exact hw12
              case p8 => decide
              case p9 => decide
              intro tpp hpp tkpp Fpp Npp
              rw [ein]
              (try dsimp only)
              (try k_fold)
              k_steps
              refine' Stop.go ?_
              --MARK8
              rename News _ _ _ _ => No
              k_dflt refine' listG_comp (vs := vR) (keep := [(rR, W.listOf vR.toArray epR)]) ?ohh ?oF ?oN ?ok ?ol (.inl ⟨_, .head _⟩) ?osz (fun j m₂ => RowB U (rowsOf (p0 :: ps) cnt (2 ^ cnt)) j m₂) ?oas (fun j ys gr => gr = [] ∧ IntsAre ys (lostAt ((rowsOf (p0 :: ps) cnt (2 ^ cnt)).take j) i false)) ?oh0 ?ost ?ofi
              case ohh => exact rfl
              case oF => k_asm
              case oN => exact No
              case ok => exact fun p hp => by rw [List.mem_singleton.mp hp]; first | k_mem | fail
              case ol => is_list
              case osz => rw [sizeLine_eq]; lia
              case oas =>
                intro C j v s9 m' Q9 E9 hv9 hns hnw _ hQ9
                exact asg_row rfl hRw (fun p hp => hnw p (by repeat (first | exact List.mem_append_left _ hp | refine' List.Mem.tail _ ?_))) rfl rfl rfl hv9 hns hQ9
              case oh0 => exact ⟨rfl, .nil⟩
              case ost =>
                intro I3 lI3 C oC D j ys gr m₂ H3 tk3 E3 hj hyl hB3 hC hz1 F3 hCD off3
                refine hide ?_
                intro Z hZ
                obtain ⟨rfl, hT3⟩ := hz1
                obtain ⟨k9, tz, b9, v9, e9, q9, hrow, hbU, hiq, hm1, hm2⟩ := hB3
                have hq9 := rows_qlen hrow
                have hsn := lostAt_snoc (i := i) (b := false) hrow
                refine hZ ?_
                clear hZ Z
                refine AllObj.cons (w := (_, _)) fun it hit => AllObj.nil ?_
                intro hio1 hio2 N3
                simp only [List.cons_append, List.nil_append] at N3
                have hbl : H3.IsList b9 v9.toArray := ⟨_, (N3 (b9, W.listOf v9.toArray e9) (by repeat (first | exact List.mem_append_left _ hbU | refine' List.Mem.tail _ ?_))).1, rfl, _, rfl⟩
                refine wpAny_tests_one ?_
                (try dsimp only)
                (try k_fold)
                k_steps
                --MARK9
                all_goals (
                  refine ⟨_, _, [], rfl, by k_asm, by (simp only [List.cons_append, List.nil_append]; k_asm), (fun p hp => ⟨hio2 p hp, (off3 p hp).1, (off3 p hp).2⟩), rfl, ?_⟩
                  rw [hsn]
                  first | (rw [atQ_t (by assumption)]; exact hT3.append (.cons _ _ .nil)) | (rw [atQ_f (by assumption)]; exact hT3.append (.cons _ _ .nil)) | (rw [atQ_t (by assumption)]; simpa using hT3) | (rw [atQ_f (by assumption)]; simpa using hT3))
              case ofi =>
                intro h'
                intro D6 H5 tk5 ys5 gr F5 N5 off5 hz0
                refine hide ?_
                intro Z hZ
                obtain ⟨rfl, hT5⟩ := hz0
                refine hZ ?_
                clear hZ Z
                rw [hRw.length, List.take_length] at hT5
                simp only [List.nil_append] at N5 off5
                replace off5 := allNe_of off5
                simp only [AllNe, and_true] at off5
                clear No
                (try dsimp only)
                (try k_fold)
                k_steps
                refine' Stop.go ?_
                k_here
                k_dflt refine' spec_pow (ls := lostAt (rowsOf (p0 :: ps) cnt (2 ^ cnt)) i false) ?q1 ?q2 ?q3 ?q4 ?q5 ?q6 ?q7 ?q8 ?q9 ?_
                case q1 => walk_at "CX"
                case q2 => k_asm
                case q3 => is_list
                case q4 => exact hT5
                case q5 => exact fun y hy => lost_le h34 hpl hpb y (lostAt_sub y hy)
                case q6 => exact Nat.le_trans lostAt_len (by lia)
                case q7 => exact hw12
                case q8 => decide
                case q9 => decide
                intro tpq hpq tkpq Fpq Npq
                rw [eout]
                (try dsimp only)
                (try k_fold)
                k_steps
                refine' Stop.go ?_
                --MARK10
                k_dflt refine' ne_tup (ns := [0, 0, Q1 * BB wd (nT xs), Q1 * BB wd (nC xs)]) ?ta ?tb ?ti ?tj ?tu ?_
                case ta => exact News.isTup (by k_asm) (by k_mem)
                case tb => exact News.isTup (by k_asm) (by k_mem)
                case ti => exact .cons _ _ (.cons _ _ (.cons _ _ (.cons _ _ .nil)))
                case tj => exact .cons _ _ (.cons _ _ (.cons _ _ (.cons _ _ .nil)))
                case tu => first | units_room | exact Nat.le_of_ble_eq_true rfl
                (try dsimp only)
                k_steps
                --MARK11
                refine' hQT _ _ ?_
                refine' TurnP.next ?vF ?vN ((DS, _) :: (rR, _) :: (D8, _) :: (s1.heap.objs.size + 1 + 1, _) :: (s1.heap.objs.size + 1, oL8) :: (U ++ t11)) ?vs ?voff ?vr
                case vF => k_asm
                case vN => k_asm
                case vs => first | walk_at "SUBL" | fail
                case voff => first | walk_at "OFF" | fail
                case vr =>
                  refine' ⟨.head _, _, t11, _, oL8, _, vL8, htb11, hU11, ?vk, dL8, hI12, hI13, ⟨?vh1, ?vh2⟩, rfl⟩
                  case vk => assumption
                  case vh1 => exact fun p hp => by rw [List.mem_singleton.mp hp]; exact rfl
                  case vh2 =>
                    intro z g1 g2
                    have b0 : z ≠ Str.ofString "left" := g1 _ (.head _)
                    have b1 := notIn g2 _ (.head _)
                    have b2 := notIn g2 _ (.tail _ (.head _))
                    have b3 := notIn g2 _ (.tail _ (.tail _ (.head _)))
                    have b4 := notIn g2 _ (.tail _ (.tail _ (.tail _ (.head _))))
                    have b5 := notIn g2 _ (.tail _ (.tail _ (.tail _ (.tail _ (.head _)))))
                    have b6 := notIn g2 _ (.tail _ (.tail _ (.tail _ (.tail _ (.tail _ (.head _))))))
                    have b7 := notIn g2 _ (.tail _ (.tail _ (.tail _ (.tail _ (.tail _ (.tail _ (.head _)))))))
                    have b8 := notIn g2 _ (.tail _ (.tail _ (.tail _ (.tail _ (.tail _ (.tail _ (.tail _ (.head _))))))))
                    (repeat (first | with_reducible exact rfl | with_reducible refine stIf (by assumption) ?_ | with_reducible refine stCons (by assumption) ?_ | with_reducible refine stNil ?_ | with_reducible refine stCon (by assumption) ?_))
        case ldone =>
          intro I m9 news9 hz0 H tkH F9 N9
          refine hide ?_
          intro Z hZ
          obtain ⟨tl, t8, oK8, oL8, vK8, vL8, htb8, hU8, dK8, dL8, hI1, hI2, hH, rfl⟩ := hz0
          refine hZ ?_
          clear hZ Z
          have F9 := hH.fr F9
          have eLast : BB wd (nC p0) * prd wd (ps.drop vs1.length) = BB wd (nC p0) := by
            rw [hvs1, ← hpl, List.drop_length]
            exact Int.mul_one _
          rw [eLast] at F9
          have hx0 : 0 ≤ BB wd (nC p0) := Int.le_of_lt (BB_pos _ _)
          have hx1 : BB wd (nC p0) < 2 ^ (wd * (nC p0 + 1)) := by
            have h1 := BB_pos wd (nC p0)
            have h2 : (2 : Int) ^ 1 ≤ 2 ^ wd := pow_mono2 (by lia)
            rw [Nat.mul_add, Nat.mul_one, Int.pow_add]
            show BB wd (nC p0) < BB wd (nC p0) * 2 ^ wd
            have h3 : BB wd (nC p0) * 2 ≤ BB wd (nC p0) * 2 ^ wd := Int.mul_le_mul_of_nonneg_left (by lia) (by lia)
            lia
          have hp0 := hpb p0 (.head _)
          have hc0 : nC p0 ≤ 2 := nC_le hp0.1
          have hc1 : (p0.filter lastC).length ≤ 2 := hc0
          clear N6 htb9 hU9 dK hI1 hI2 hH
          (try dsimp only)
          (try k_fold)
          k_steps
          refine' Stop.go ?_
          --MARK12
          k_here
          k_dflt refine' spec_i2d ?jcx ?jN ?jtb ?jap ?jow ?j1 ?j2 ?jx (nC p0 + 1) ?jk ?j64 ?jxk ?jdp ?jun ?_
          case jcx => walk_at "CX"
          case jN => k_asm
          case jtb => exact htb8
          case jap => walk_at "APP"
          case jow => first | walk_at "DIS" | fail
          case j1 => lia
          case j2 => lia
          case jx => exact hx0
          case jk => exact last_count (by lia)
          case j64 => lia
          case jxk => exact hx1
          case jdp => decide
          case jun => decide
          intro r7 vs7 ep7 t7 h7 tk7 hi7 htb7 F7 N7 hr7 hd7
          rw [show digs wd (nC p0 + 1) (BB wd (nC p0)) = List.replicate (nC p0) 0 ++ [1] from digs_one_up (by lia) _] at hi7
          simp only [List.cons_append, List.nil_append] at N7
          replace hr7 := allNe_of hr7
          simp only [AllNe, and_true] at hr7
          (try dsimp only)
          (try k_fold)
          k_steps
          refine' Stop.go ?_
          --MARK13
          rename News _ _ _ _ => Nz
          k_here
          k_dflt refine' spec_com (xs := p0) ?ycx ?yN ?yd ?yt ?yb ?yl ?ydp ?yun ?_
          case ycx => walk_at "CX"
          case yN => exact Nz
          case yd => exact ⟨_, (Nz (a0, W.listOf v0.toArray e0) (by repeat (first | exact List.mem_append_left _ hl0 | refine' List.Mem.tail _ ?_))).1, rfl, _, rfl⟩
          case yt => exact ht0
          case yb => exact hp0.2
          case yl => lia
          case ydp => decide
          case yun => decide
          intro tc hc tkc Fc Nc
          (try dsimp only)
          (try k_fold)
          iterate 6 (first | walk1 | (dsimp only; walk1))
          rename Fr _ _ _ _ => Fe
          rename News _ _ _ _ => Ne
          k_dflt refine' addOne Fe Ne hc1 ?_
          intro R9 h9 v9 hi9 F8 N8
          k_dflt refine' eq_intsT (ns := List.replicate (nC p0) 0 ++ [1]) ?qa ?qb ?qc ?qd ?qe ?_
          case qa => exact News.isList N8 (.tail _ (.tail _ (.tail _ (.tail _ (.head _)))))
          case qb => exact News.isList N8 (.head _)
          case qc => exact hi7
          case qd => exact hi9
          case qe => first | units_room | exact Nat.le_of_ble_eq_true rfl
          (try dsimp only)
          --MARK14
          refine hQR _ _ ⟨⟨.inl ⟨_, _, [], rfl, ?xr, .bool true, ?xp, ?xu⟩, F8.keep, rfl, ?xg⟩, ?xgr⟩
          case xgr =>
            obtain ⟨ps1, ps2, rest, e9, _⟩ := htb7
            subst e9
            exact ⟨GrownAt.of (ps := ps1) N8 (by repeat (first | exact List.Mem.head _ | exact List.mem_append_right _ (.head _) | exact List.mem_append_right _ (.tail _ (.head _)) | refine' List.Mem.tail _ ?_)), GrownAt.of (ps := ps2) N8 (by repeat (first | exact List.Mem.head _ | exact List.mem_append_right _ (.head _) | exact List.mem_append_right _ (.tail _ (.head _)) | refine' List.Mem.tail _ ?_)), trivial⟩
          case xg => assumption
          case xr => exact fun _ => rfl
          case xp => kernel_rfl
          case xu => exact fun _ => ⟨.nil, fun _ h => nomatch h⟩
  )

end
end Mine

theorem PySem.Challenge.cw_pg0162_02_holds : PySem.Challenge.rw_pg0162_02.Holds :=
  Mine.law_holds
