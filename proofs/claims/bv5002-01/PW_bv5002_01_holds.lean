import PyProof.Rows.All
import Wide.All
import OpenK.AllK
import Wide.FinOn
import PySem.Challenge.RW_bv5002_01
open PySem PySem.W PySem.Calls PyProof.Rows
set_option Elab.async false
set_option maxRecDepth 100000
set_option maxHeartbeats 8000000
set_option linter.unusedVariables false

/-! W0 -/
namespace Mine

/-! ### contexts with no codec at work below -/
def holdsDec : Code → Bool
  | .builtin id _ => Builtin.Bytes.decodersThatHold.contains id
  | _ => false
def CB (l : List (Code × Pos)) : Prop := ∀ x ∈ l, holdsDec x.1 = false
def wpC {α : Type} (M : Model) (A : Around) (t : Sem α) (Q : α → Shared → Prop) (E : Value → Shared → Prop) (s : Shared) : Prop :=
  ∀ (Γ : Ctx) p, Γ.In A → holdsDec Γ.code = false → CB Γ.below → Sem.wp M Γ t (fun a _ s' => Q a s') (fun e _ s' => E e s') p s
def codeC (M : Model) (A : Around) (c : Code) (R : Result → Shared → Prop) (s : Shared) : Prop := ∀ (Γ : Ctx) p, Γ.code = c → Γ.Below A → CB Γ.below → wpCode M Γ R p s

section
variable {α β : Type} {M : Model} {A : Around} {E : Value → Shared → Prop} {s : Shared}
theorem wpC.any {t : Sem α} {Q : α → Shared → Prop} (h : wpAny M A t Q E s) : wpC M A t Q E s := fun Γ p hΓ _ _ => h Γ p hΓ
theorem codeC.any {c : Code} {R : Result → Shared → Prop} (h : codeAny M A c R s) : codeC M A c R s := fun Γ p hc hΓ _ => h Γ p hc hΓ
theorem wpC.mono {t : Sem α} {Q Q' : α → Shared → Prop} {E' : Value → Shared → Prop} (h : wpC M A t Q E s) (hQ : ∀ a s, Q a s → Q' a s) (hE : ∀ e s, E e s → E' e s) : wpC M A t Q' E' s :=
  fun Γ p hΓ d b => Sem.wp_mono M Γ t (fun a _ s => hQ a s) (fun e _ s => hE e s) p s (h Γ p hΓ d b)
theorem wpC.bind {m : Sem α} {f : α → Sem β} {Q : β → Shared → Prop} (h : wpC M A m (fun a s' => wpC M A (f a) Q E s') E s) : wpC M A (m >>= f) Q E s := fun Γ p hΓ d b => by
  rw [Sem.wp_bind']
  exact Sem.wp_mono M Γ m (fun a p' s' h' => h' Γ p' hΓ d b) (fun _ _ _ h' => h') p s (h Γ p hΓ d b)
theorem wpC.bindA {m : Sem α} {f : α → Sem β} {Q : β → Shared → Prop} (h : wpAny M A m (fun a s' => wpC M A (f a) Q E s') E s) : wpC M A (m >>= f) Q E s := wpC.bind (wpC.any h)
theorem wpC.pure {a : α} {Q : α → Shared → Prop} (h : Q a s) : wpC M A (pure a) Q E s := fun _ _ _ _ _ => h
theorem wpC.holding {vs : List Value} {m : Sem α} {Q : α → Shared → Prop} (h : wpC M A m Q E s) : wpC M A (holding vs m) Q E s := fun Γ p hΓ d b => by rw [Sem.wp_holding]; exact h Γ p hΓ d b
theorem wpC.keep {vs : List Value} {m : Sem α} {Q : α → Shared → Prop} (h : wpC M A m Q E s) : wpC M A (m.keep vs) Q E s := fun Γ p hΓ d b => by rw [Sem.wp_keep]; exact h Γ p hΓ d b
theorem wpC.onRaise {m : Sem α} {k : Value → Sem Unit} {Q : α → Shared → Prop} (h : wpC M A m Q (fun e s' => wpC M A (k e) (fun _ s'' => E e s'') E s') s) : wpC M A (m.onRaise k) Q E s := fun Γ p hΓ d b => by
  rw [Sem.wp_onRaise]
  exact Sem.wp_mono M Γ m (fun _ _ _ h' => h') (fun e p' s' h' => h' Γ p' hΓ d b) p s (h Γ p hΓ d b)
theorem CB.enter {Γ : Ctx} {p : Pos} (d : holdsDec Γ.code = false) (b : CB Γ.below) : CB ((Γ.code, p) :: Γ.below) := fun x hx => by
  rcases List.mem_cons.mp hx with rfl | hx
  · exact d
  · exact b x hx
theorem wpC.run {c : Code} {h : Option Value} {Q : Flow → Shared → Prop} (hc : codeC M (A.mark h) c (fun r s' => match r with | .ok f => Q f s' | .error e => E e s') s) (hnb : h ≠ some byPass := by intro x; cases x) : wpC M A (run c h) Q E s :=
  fun Γ p hΓ d b => by rw [Sem.wp_run]; exact hc _ p rfl (hΓ.enter c h p hnb) (CB.enter d b)
theorem wpC.runValue {c : Code} {Q : Value → Shared → Prop} (hc : codeC M A c (fun r s' => match r with | .ok (.ret v) => Q v s' | .ok _ => False | .error e => E e s') s) : wpC M A (runValue c) Q E s :=
  fun Γ p hΓ d b => by rw [Sem.wp_runValue]; exact hc _ p rfl (hΓ.enter c none p (by intro x; cases x)) (CB.enter d b)
theorem wpC.call {f : Value} {pos : List Value} {kw : List (PySem.Str × Value)} {Q : Value → Shared → Prop} (hc : codeC M A (.call f ⟨pos, kw⟩) (fun r s' => match r with | .ok (.ret v) => Q v s' | .ok _ => False | .error e => E e s') s) :
    wpC M A (PySem.call f pos kw) Q E s := wpC.runValue hc
theorem codeC.tree {c : Code} {R : Result → Shared → Prop} (hd : holdsDec c = false)
    (h : wpC M (A.under c) (M.den c) (fun fin s' => match fin with | .done f => R (.ok f) s' | .again c' => c'.quiet = true ∧ codeC M A c' R s') (fun e s' => R (.error e) s') s) : codeC M A c R s := fun Γ p hc hΓ b => by
  rw [wpCode_iff_wp, hc]
  refine Sem.wp_mono M Γ _ (fun fin p' s' h' => ?_) (fun _ _ _ h' => h') p s (h Γ p (hc ▸ hΓ.in) (hc ▸ hd) b)
  cases fin with
  | done f => exact h'
  | again c' => exact ⟨h'.1, h'.2 (Γ.goto c') p' rfl (hΓ.goto c') b⟩
theorem codeC.loop {c : Code} {R : Result → Shared → Prop} (hd : holdsDec c = false) (hq : c.quiet = true) (I : Nat → Shared → Prop)
    (turn : ∀ n s, I n s → wpC M (A.under c) (M.den c) (fun fin s' => match fin with | .done f => R (.ok f) s' | .again c' => (c' = c ∧ ∃ m, m < n ∧ I m s') ∨ (c'.quiet = true ∧ codeC M A c' R s')) (fun e s' => R (.error e) s') s) (n : Nat) (h : I n s) : codeC M A c R s := by
  induction n using Nat.strongRecOn generalizing s with
  | ind n ih =>
    refine codeC.tree hd (wpC.mono (turn n s h) (fun fin s' hf => ?_) fun _ _ h' => h')
    cases fin with
    | done f => exact hf
    | again c' =>
      rcases hf with ⟨rfl, m, hm, hI⟩ | hf
      · exact ⟨hq, ih m hm hI⟩
      · exact hf
end


/-! ### the head, asked in such contexts alone -/
abbrev WalkC (q : Program) (loose : List PySem.Str) (XP : (PySem.Str → Option Value) → Heap → Prop) (YP : World → Heap → Prop) (r : RowW) (d : DefRec) (kwd : List (PySem.Str × PySem.Expr)) : Prop :=
  ∀ (w : World) (s₀ s₁ : Shared) (mg mb : PySem.Str → Option Value), Ground q loose r.records XP w s₀ mg mb s₁.heap → YP w s₁.heap → ∀ (a : Addr) (o : Obj) (pm cd doc dV kV : Value), s₁.heap.get? a = some o →
    o.data = .func { docDef d.name d.params d.body d.scope pm cd doc with defaults := dV, kwdefaults := kV } → s₁.heap.CodeRec cd d.name → Dflts mg s₁.heap d.params kwd dV kV → mg d.name = some (.ref a) → s₁.gens = #[] →
    ∀ (args : List WData) (vals : List Value) (as : List Addr), r.claim.pre args = true → WData.layableAll args = true → ReadsAllW r.records (classAt s₀.heap) s₁.heap vals args as → WellAll w.params s₁.heap vals args → (∀ a ∈ as, (a == sysModules) = false) →
      wpC (model r.prog w) callerA (PySem.call (.ref a) vals) (fun v s' => GoodWG r.claim (classAt s₀.heap) (ExcName.means s₀.heap) args s₁ (.ok (.ret v)) s')
        (fun e s' => GoodWG r.claim (classAt s₀.heap) (ExcName.means s₀.heap) args s₁ (.error e) s') s₁

/-- the thread of the claim's caller ends as its tree does in the one context it is asked in -/
theorem endsC {c : ClaimW} {tree : List Value → Sem Fin} {w : World} {s : Shared} {free : Addr → Prop} {gens : Prop} {kept : Heap → Prop} (hz : s.asleep) (hgens : s.gens = #[])
    (spec : ∀ args, c.pre args = true → WData.layableAll args = true → ∀ ord : List DictEntry → List DictEntry, (∀ l, (ord l).Perm l) →
      ∃ vs s₁, layAllW c.records (classAt s.heap) w.params ord args s = some (vs, s₁) ∧
        wpC (model c.prog w) callerA (tree vs) (fun fin s' => ∃ f, fin = .done f ∧ c.Ends s args vs s₁ (.ok f) s' ∧ s'.os = s.os ∧ AllBare s'.gens ∧ kept s'.heap)
          (fun e s' => c.Ends s args vs s₁ (.error e) s' ∧ s'.os = s.os ∧ AllBare s'.gens ∧ kept s'.heap) s₁) :
    c.CallFrom (fun vs => ⟨tree vs, .builtin "claim.caller" {}, default, []⟩) w free gens kept s := by
  intro args hp hl ord ho
  obtain ⟨vs, s₁, laid, run⟩ := spec args hp hl ord ho
  have rest := layAllW_rest _ _ _ laid
  have at0 := run ⟨.builtin "claim.caller" {}, none, none, [], none⟩ default caller_in (by decide +kernel) (fun x hx => by cases hx)
  obtain ⟨n, r, sa, sb, h1, h2, h3, h4⟩ := wp_halts_full (M := model c.prog w) (R := fun r s' => c.Ends s args vs s₁ r s' ∧ s'.os = s.os ∧ kept s'.heap) (Shared.asleep_of_life rest.2.2.2 hz)
    (Sem.wp_mono _ _ _ (fun fin p' s' h' => by
      obtain ⟨f, rfl, a, b, d, e⟩ := h'
      exact ⟨⟨a, b, e⟩, leftWithCleanup_false_of_bare d⟩) (fun e p' s' ⟨a, b, d, k⟩ => ⟨⟨a, b, k⟩, leftWithCleanup_false_of_bare d⟩) _ _ at0)
  obtain ⟨cs, os, kp⟩ := h4
  obtain ⟨eh, _, _, eo, _⟩ := Shared.forget_eq h3
  have cs := cs.congr eh
  rw [← eo] at os
  rw [← eh] at kp
  refine ⟨vs, s₁, laid, n, _, sb, h1, ?_, (fun _ i x hx => by rw [hgens] at hx; simp at hx), kp, by rw [(runN_life _ _ _ h2).trans rest.2.2.2], Shared.rest_eq os⟩
  rcases cs with ⟨v, rfl, d1, d2, d3, d4, d5⟩ | ⟨e, ob, cls, rfl, d1, d2, d3, d4, d5⟩
  · exact .inl ⟨v, rfl, d1, d2, d3, fun b o y _ => d4 b o y, d5⟩
  · exact .inr ⟨e, ob, cls, rfl, d1, d2, d3, d4, fun b o y _ => d5 b o y⟩

end Mine

namespace Mine.PySem.W
theorem holds_open {r : OpenRow} {q : Program} {loose : List PySem.Str} {Xt : Shared → Bool} {XP : (PySem.Str → Option Value) → Heap → Prop} {α : Type} {Yf : Shared → α} {Ya : World → α} {YP : World → Heap → Prop} {d : DefRec} {kwd : List (PySem.Str × PySem.Expr)} {N : Nat}
    (left : LeftO r.prog q loose Xt Yf Ya N) (hY : ∀ w s, Yf s = Ya w → YP w s.heap) (hYk : ∀ w h h', YP w h → (∀ b o, h.get? b = some o → h'.get? b = some o) → YP w h')
    (hX : ∀ s, Xt s = true → XP (s.heap.nsMap mainGlobals) s.heap) (hXk : ∀ mg h h', XP mg h → (∀ b o, h.get? b = some o → h'.get? b = some o) → XP mg h')
    (hdef : defOf q r.name = some (d, kwd)) (hp : r.prog.theDef r.name = some (d.params, d.body, d.scope)) (hk : kwWritten? d.params.kwonlyargs d.params.kw_defaults = some kwd) (hRf : ∀ s, Xt s = true → RecFacts r.records s.heap) (hwr : (!r.writes || r.records.isEmpty) = true)
    (k1 : r.wellSaid = true) (ok : (chainsOk q && opensWell r.prog && (frees r.toRowW && r.within.isEmpty)) = true) (hb : r.prog.bare) (hw : r.toRowW.promised)
    (call : WalkC q loose XP YP r.toRowW d kwd) : r.Holds := by
  obtain ⟨ok1, ok2⟩ := Bool.and_eq_true_iff.mp ok
  obtain ⟨chains, opens⟩ := Bool.and_eq_true_iff.mp ok1
  obtain ⟨fr, wi⟩ := Bool.and_eq_true_iff.mp ok2
  obtain ⟨same, und, aft, apt, mk⟩ := frees_parts fr
  have wi' : r.toRowW.claim.within = [] := List.isEmpty_iff.mp wi
  refine ⟨k1, hw, ⟨hb, opens, by show r.toRowW.makers.map _ = []; rw [mk]; rfl⟩, hw.witness, fun w => ⟨(left.behind hX chains w).1, fun s' hs' => ?_⟩⟩
  obtain ⟨s₀, fen, g0, s, ran, asleep, gens, isn, G1, y⟩ := (left.behind (XP := fun mg h => XP mg h ∧ RecFacts r.records h) (fun s hs => ⟨hX s hs, hRf s hs⟩) chains w).2 s' hs'
  have recs := G1.X.2
  have G0 : Ground q loose [] XP w s (s.heap.nsMap mainGlobals) (s.heap.nsMap builtinsNs) s.heap := ⟨G1.T, G1.B, G1.D, G1.TE, G1.TD, G1.W, G1.X.1, G1.cls, G1.has, G1.apart, G1.once, G1.K⟩
  have ran₀ := ran
  have gens0 : s.gens = #[] := Array.eq_empty_of_size_eq_zero (beq_iff_eq.mp gens)
  have G : Ground q loose r.records XP w s _ _ s.heap := recs.ground G0
  refine ⟨s₀, fen, g0, s, ran, fun n hn => ?_, recs.1, recs.2.1, ?_⟩
  · obtain rfl : n = r.name := by split at hn <;> simp_all
    exact pinned_of_view isn G0 hdef hp hk
  refine endsC (c := r.toRowW.claim) (tree := fun vs => do match ← nsGet mainNs r.name with
      | some f => do ret (← PySem.call f vs)
      | none => unsupported "claim.caller:no-such-global") asleep gens0 fun args hpre hlay ord hord => ?_
  obtain ⟨⟨vs, s₁⟩, laid⟩ := Option.isSome_iff_exists.mp (layAllW_isSome (P := w.params) (ord := ord) G.has args r.args s (pre_splitW hpre).1)
  have keeps := layAllW_keeps _ _ _ laid
  have rest := layAllW_rest _ _ _ laid
  obtain ⟨as, reads, inn, old⟩ := reads_layAllW hord _ _ _ laid hlay s₁.heap (fun _ _ e => e)
  have L : Laid r.records w s s₁ args vs as := ⟨⟨ord, hord, laid⟩, reads, inn, old, keeps, rest.1.trans gens0, rest.2.2.1⟩
  have G₁ := G.keeps hXk keeps
  obtain ⟨a, o, pm, cd, doc, dV, kV, h1, h2, h3, h4, h5⟩ := G₁.fn hdef
  have run := call w s s₁ _ _ G₁ (hYk _ _ _ (hY w s y) keeps) a o pm cd doc dV kV h2 h3 h4 h5 (defOf_name hdef ▸ h1) L.gens args vs as hpre hlay L.reads L.well (L.low G.low)
  have free := ident_freeW und aft apt
  refine ⟨vs, s₁, laid, wpC.bindA (wpAny_nsGet G₁.T.g ?_)⟩
  rw [h1]
  refine wpC.bind (wpC.mono run (fun v s' g => wpC.pure ⟨_, rfl, ?_⟩) fun e s' g => ?_)
  · have z := g.laid (c := r.toRowW.claim) same wi' free L
    exact ⟨z.1, z.2.1, z.2.2, fun q => ⟨namesKept_of ran₀ isn _ keeps g.2.1.old, noTable hwr q⟩⟩
  · have z := g.laid (c := r.toRowW.claim) same wi' free L
    exact ⟨z.1, z.2.1, z.2.2, fun q => ⟨namesKept_of ran₀ isn _ keeps g.2.1.old, noTable hwr q⟩⟩
end Mine.PySem.W

/-! HD -/
namespace Mine
open_top hd for PySem.Challenge.rw_bv5002_01
end Mine

/-! F1 -/
namespace Mine

abbrev PR : Program := PySem.Challenge.rw_bv5002_01.row.prog
abbrev Nm := PySem.Str

/-- a value of the text, without its token -/
inductive V where
  | none
  | bool (b : Bool)
  | int (i : Int)
  | str (x : PySem.Str)
  | bytes (b : List UInt8)
  | txt (n : Nat)
  | ref (i : Nat)
  | ty (n : String)
  | bi (n : String)
  | fn (a : Nat)

inductive Rep (as : List Nat) : V → Value → Prop where
  | none : Rep as .none .none
  | bool (b : Bool) : Rep as (.bool b) (.bool b)
  | int (i : Int) (t : Tok) : Rep as (.int i) (.int i t)
  | str (x : PySem.Str) (t : Tok) : Rep as (.str x) (.str x t)
  | bytes (b : List UInt8) (t : Tok) : Rep as (.bytes b) (.bytes b.toArray t)
  | txt (n : Nat) (x : PySem.Str) (t : Tok) (h : x.length ≤ n) : Rep as (.txt n) (.str x t)
  | ref (i a : Nat) (h : as[i]? = some a) : Rep as (.ref i) (.ref a)
  | ty (n : String) : Rep as (.ty n) (.type n)
  | bi (n : String) : Rep as (.bi n) (.builtin n)
  | fn (a : Nat) : Rep as (.fn a) (.ref a)

def Ext (as as' : List Nat) : Prop := ∃ tl, as' = as ++ tl
theorem Ext.refl {as : List Nat} : Ext as as := ⟨[], by simp⟩
theorem Ext.trans {a b c : List Nat} (h : Ext a b) (k : Ext b c) : Ext a c := by
  obtain ⟨x, rfl⟩ := h
  obtain ⟨y, rfl⟩ := k
  exact ⟨x ++ y, by simp⟩
theorem Ext.one {as : List Nat} {a : Nat} : Ext as (as ++ [a]) := ⟨[a], rfl⟩
theorem Ext.at {as as' : List Nat} {i a : Nat} (h : Ext as as') (e : as[i]? = some a) : as'[i]? = some a := by
  obtain ⟨tl, rfl⟩ := h
  have : i < as.length := by
    rcases Nat.lt_or_ge i as.length with h | h
    · exact h
    · rw [List.getElem?_eq_none h] at e; cases e
  rw [List.getElem?_append_left this, e]
theorem Rep.ext {as as' : List Nat} {v : V} {x : Value} (r : Rep as v x) (h : Ext as as') : Rep as' v x := by
  cases r with
  | ref i a e => exact .ref _ _ (h.at e)
  | _ => constructor <;> assumption

inductive RepAll (as : List Nat) : List V → List Value → Prop where
  | nil : RepAll as [] []
  | cons {v : V} {x : Value} {vs : List V} {xs : List Value} : Rep as v x → RepAll as vs xs → RepAll as (v :: vs) (x :: xs)
theorem RepAll.ext {as as' : List Nat} {vs : List V} {xs : List Value} (r : RepAll as vs xs) (h : Ext as as') : RepAll as' vs xs := by
  induction r with
  | nil => exact .nil
  | cons a _ ih => exact .cons (a.ext h) ih
theorem RepAll.length {as : List Nat} {vs : List V} {xs : List Value} (r : RepAll as vs xs) : xs.length = vs.length := by
  induction r with
  | nil => rfl
  | cons _ _ ih => simp [ih]
theorem RepAll.append {as : List Nat} {vs vs' : List V} {xs xs' : List Value} (r : RepAll as vs xs) (r' : RepAll as vs' xs') : RepAll as (vs ++ vs') (xs ++ xs') := by
  induction r with
  | nil => exact r'
  | cons a _ ih => exact .cons a ih
theorem RepAll.get {as : List Nat} {vs : List V} {xs : List Value} (r : RepAll as vs xs) {i : Nat} {v : V} (h : vs[i]? = some v) : ∃ x, xs[i]? = some x ∧ Rep as v x := by
  induction r generalizing i with
  | nil => simp at h
  | cons a _ ih =>
    cases i with
    | zero => simp at h; subst h; exact ⟨_, rfl, a⟩
    | succ i => simp at h; simpa using ih h

/-- an object of the call's own -/
inductive Cell where
  | list (vs : List V)
  | tuple (vs : List V)
  | barr (b : List UInt8)
  | itB (b : List UInt8) (i : Nat)
  | itL (j i : Nat)
  | itT (j i : Nat)
  | itR (x left step : Int)
  | rng (x y z : Int)
  | bnd (id T : String)

def V.low (n : Nat) : V → Bool
  | .ref i => decide (i < n)
  | _ => true
def Cell.low (n : Nat) : Cell → Bool
  | .list vs => vs.all (V.low n)
  | .tuple vs => vs.all (V.low n)
  | .itL j _ => decide (j < n)
  | .itT j _ => decide (j < n)
  | _ => true
theorem Rep.cut {as tl : List Nat} {v : V} {x : Value} (r : Rep (as ++ tl) v x) (h : v.low as.length = true) : Rep as v x := by
  cases r with
  | ref i a e =>
    have hi : i < as.length := by simpa [V.low] using h
    rw [List.getElem?_append_left hi] at e
    exact .ref _ _ e
  | _ => constructor <;> assumption
theorem RepAll.cut {as tl : List Nat} {vs : List V} {xs : List Value} (r : RepAll (as ++ tl) vs xs) (h : vs.all (V.low as.length) = true) : RepAll as vs xs := by
  induction r with
  | nil => exact .nil
  | cons a _ ih =>
    simp only [List.all_cons, Bool.and_eq_true] at h
    exact .cons (a.cut h.1) (ih h.2)

inductive CellRep (as : List Nat) : Cell → Obj → Prop where
  | list {vs : List V} {xs : List Value} (n : Nat) : RepAll as vs xs → CellRep as (.list vs) { cls := .type "list", data := .seq xs.toArray n }
  | tuple {vs : List V} {xs : List Value} : RepAll as vs xs → CellRep as (.tuple vs) { cls := .type "tuple", data := .seq xs.toArray }
  | barr (b : List UInt8) : CellRep as (.barr b) { cls := .type "bytearray", data := .bytearray b.toArray }
  | itB (b : List UInt8) (i : Nat) (t : Tok) (ob : Obj) : ob.cls = .type "bytes_iterator" → ob.data = .fields #[.bytes b.toArray t, .int i 0] → CellRep as (.itB b i) ob
  | itL (j i a : Nat) (ob : Obj) : as[j]? = some a → ob.cls = .type "list_iterator" → ob.data = .fields #[.ref a, .int i 0] → CellRep as (.itL j i) ob
  | itT (j i a : Nat) (ob : Obj) : as[j]? = some a → ob.cls = .type "tuple_iterator" → ob.data = .fields #[.ref a, .int i 0] → CellRep as (.itT j i) ob
  | rng (x y z : Int) (t u v : Tok) : CellRep as (.rng x y z) { cls := .type "range", dict := none, data := .fields #[.int x t, .int y u, .int z v], slots := #[] }
  | bnd (id T : String) : CellRep as (.bnd id T) { cls := .type "builtin_function_or_method", data := .fields #[.builtin id, .type T] }
  | itR (x l st : Int) : CellRep as (.itR x l st) { cls := .type "range_iterator", dict := none, data := .fields #[rawInt x, rawInt l, rawInt st], slots := #[] }
theorem CellRep.cut {as tl : List Nat} {c : Cell} {o : Obj} (r : CellRep (as ++ tl) c o) (h : c.low as.length = true) : CellRep as c o := by
  cases r with
  | list n r => exact .list n (r.cut h)
  | tuple r => exact .tuple (r.cut h)
  | barr b => exact .barr b
  | itB b i t _ h1 h2 => exact .itB b i t _ h1 h2
  | itL j i a _ e h1 h2 =>
    have hj : j < as.length := by simpa [Cell.low] using h
    rw [List.getElem?_append_left hj] at e
    exact .itL j i a _ e h1 h2
  | itT j i a _ e h1 h2 =>
    have hj : j < as.length := by simpa [Cell.low] using h
    rw [List.getElem?_append_left hj] at e
    exact .itT j i a _ e h1 h2
  | itR x l st => exact .itR x l st
  | rng x y z t u v => exact .rng x y z t u v
  | bnd id T => exact .bnd id T
theorem CellRep.ext {as as' : List Nat} {c : Cell} {o : Obj} (r : CellRep as c o) (h : Ext as as') : CellRep as' c o := by
  cases r with
  | list n r => exact .list n (r.ext h)
  | tuple r => exact .tuple (r.ext h)
  | barr b => exact .barr b
  | itB b i t _ h1 h2 => exact .itB b i t _ h1 h2
  | itL j i a _ e h1 h2 => exact .itL j i a _ (h.at e) h1 h2
  | itT j i a _ e h1 h2 => exact .itT j i a _ (h.at e) h1 h2
  | itR x l st => exact .itR x l st
  | rng x y z t u v => exact .rng x y z t u v
  | bnd id T => exact .bnd id T

abbrev Led := List (Nat × Obj)
/-- the store: one cell an object of the ledger -/
inductive Sto (as : List Nat) : List Cell → Led → Prop where
  | nil : Sto as [] []
  | cons {c : Cell} {p : Nat × Obj} {σ : List Cell} {l : Led} : CellRep as c p.2 → Sto as σ l → Sto as (c :: σ) (p :: l)
theorem Sto.ext {as as' : List Nat} {σ : List Cell} {l : Led} (r : Sto as σ l) (h : Ext as as') : Sto as' σ l := by
  induction r with
  | nil => exact .nil
  | cons a _ ih => exact .cons (a.ext h) ih
theorem Sto.length {as : List Nat} {σ : List Cell} {l : Led} (r : Sto as σ l) : l.length = σ.length := by
  induction r with
  | nil => rfl
  | cons _ _ ih => simp [ih]
theorem Sto.snoc {as : List Nat} {σ : List Cell} {l : Led} {c : Cell} {p : Nat × Obj} (r : Sto as σ l) (h : CellRep as c p.2) : Sto as (σ ++ [c]) (l ++ [p]) := by
  induction r with
  | nil => exact .cons h .nil
  | cons a _ ih => exact .cons a ih
theorem Sto.get {as : List Nat} {σ : List Cell} {l : Led} (r : Sto as σ l) {i : Nat} {c : Cell} (h : σ[i]? = some c) : ∃ p, l[i]? = some p ∧ CellRep as c p.2 := by
  induction r generalizing i with
  | nil => simp at h
  | cons a _ ih =>
    cases i with
    | zero => simp at h; subst h; exact ⟨_, rfl, a⟩
    | succ i => simp at h; simpa using ih h
theorem Sto.set {as : List Nat} {σ : List Cell} {l : Led} (r : Sto as σ l) {i : Nat} {c : Cell} {p : Nat × Obj} (h : CellRep as c p.2) : Sto as (σ.set i c) (l.set i p) := by
  induction r generalizing i with
  | nil => simpa using Sto.nil
  | cons a r ih =>
    cases i with
    | zero => exact .cons h r
    | succ i => exact .cons a ih
theorem Sto.take {as : List Nat} {σ τ : List Cell} {l : Led} (r : Sto as (σ ++ τ) l) : ∃ l₁ l₂, l = l₁ ++ l₂ ∧ Sto as σ l₁ := by
  induction σ generalizing l with
  | nil => exact ⟨[], l, rfl, .nil⟩
  | cons c σ ih =>
    cases r with
    | cons a r =>
      obtain ⟨l₁, l₂, rfl, h⟩ := ih r
      exact ⟨_ :: l₁, l₂, rfl, .cons a h⟩

abbrev Loc := List (PySem.Str × V)
def LocOk (as : List Nat) (ρ : Loc) (m : PySem.Str → Option Value) : Prop := ∀ x v, ρ.lookup x = some v → ∃ val, m x = some val ∧ Rep as v val
theorem LocOk.ext {as as' : List Nat} {ρ : Loc} {m : PySem.Str → Option Value} (l : LocOk as ρ m) (h : Ext as as') : LocOk as' ρ m := fun x v e =>
  let ⟨val, a, b⟩ := l x v e
  ⟨val, a, b.ext h⟩

/-- a name is stored -/
def setL (x : PySem.Str) (v : V) : Loc → Loc
  | [] => [(x, v)]
  | (y, u) :: r => if y = x then (y, v) :: r else (y, u) :: setL x v r
theorem setL_lookup (x y : PySem.Str) (v : V) : ∀ ρ : Loc, (setL x v ρ).lookup y = if y = x then some v else ρ.lookup y
  | [] => by
    unfold setL
    rw [List.lookup_cons, List.lookup_nil]
    by_cases h : y = x
    · simp [h]
    · have : (y == x) = false := by simpa using h
      simp [h, this]
  | (z, u) :: r => by
    unfold setL
    by_cases hz : z = x
    · rw [if_pos hz]
      subst hz
      rw [List.lookup_cons, List.lookup_cons]
      by_cases h : y = z
      · simp [h]
      · have : (y == z) = false := by simpa using h
        simp [h, this]
    · rw [if_neg hz, List.lookup_cons, List.lookup_cons, setL_lookup x y v r]
      by_cases h : y = z
      · subst h
        simp [hz]
      · have : (y == z) = false := by simpa using h
        simp [this]
theorem LocOk.set {as : List Nat} {ρ : Loc} {m : PySem.Str → Option Value} (l : LocOk as ρ m) {x : PySem.Str} {v : V} {val : Value} (r : Rep as v val) :
    LocOk as (setL x v ρ) (fun y => if y = x then some val else m y) := fun y u e => by
  rw [setL_lookup] at e
  by_cases h : y = x
  · rw [if_pos h] at e
    cases e
    exact ⟨val, by simp [h], r⟩
  · rw [if_neg h] at e
    obtain ⟨w, a, b⟩ := l y u e
    exact ⟨w, by simp [h, a], b⟩

structure Cx where
  w : World
  mean : ExcName → Option Value
  mg : PySem.Str → Option Value
  mb : PySem.Str → Option Value
  A₀ : Around
  base : Heap
  outer : List Env
  qual : PySem.Str
  scope : Scope
  L : Nat
  f : Nat
  cd : Value
  s₀ : Shared
  tn : Bool
  d : Nat
  fz : Led
  k : Nat

abbrev Cx.env (c : Cx) : Env := envOf c.qual c.scope c.L c.f c.cd
abbrev Cx.A (c : Cx) : Around := c.A₀.deeper c.env
abbrev Cx.fs (c : Cx) : List Nat := c.outer.filterMap (·.frame)

structure Cx.Ok (c : Cx) : Prop where
  XB : (hd.heap_39 c.w.params).In c.base
  TB : Top hd.view_39 (looseW hd.view_39 [Str.ofString "BTClibValueError", Str.ofString "BTClibTypeError", Str.ofString "bytes_from_octets", Str.ofString "encode", Str.ofString "decode"]) c.mean c.mg c.mb c.base
  hk : c.scope.kind = .function
  hh : c.A₀.handled = none
  hg : c.A₀.guards = some []
  hr : c.A₀.depth + 1 + c.d < recursionLimit
  hu : c.A₀.units + 100 * c.d + 100 < 9900

def Tn (c : Cx) (g g' : Heap) : Prop := g' = g ∨ (c.tn = true ∧ KtsTurn c.fs g g')
theorem Tn.refl {c : Cx} {g : Heap} : Tn c g g := .inl rfl
theorem Tn.trans {c : Cx} {g g₁ g₂ : Heap} (a : Tn c g g₁) (b : Tn c g₁ g₂) : Tn c g g₂ := by
  rcases a with rfl | ⟨t, a⟩
  · exact b
  · rcases b with rfl | ⟨_, b⟩
    · exact .inr ⟨t, a⟩
    · exact .inr ⟨t, a.trans b⟩

structure Inv (c : Cx) (g : Heap) (as : List Nat) (ρ : Loc) (σ : List Cell) (s : Shared) : Prop where
  B : Below c.A₀ c.base c.outer g
  D : KtsDicts c.fs g
  sim : s = { c.s₀ with heap := s.heap, toks := s.toks }
  nd : as.Nodup
  off : ∀ i a, c.k ≤ i → as[i]? = some a → ∀ p ∈ c.fz, p.1 ≠ a
  ex : ∃ m led, Fr g c.L s.heap m ∧ News g c.L s.heap (c.fz ++ led) ∧ led.map (·.1) = as ∧ LocOk as ρ m ∧ Sto as σ led

theorem Inv.X {c : Cx} {g : Heap} {as : List Nat} {ρ : Loc} {σ : List Cell} {s : Shared} (I : Inv c g as ρ σ s) (O : c.Ok) : (hd.heap_39 c.w.params).In g := O.XB.keeps I.B.stays
theorem Inv.T {c : Cx} {g : Heap} {as : List Nat} {ρ : Loc} {σ : List Cell} {s : Shared} (I : Inv c g as ρ σ s) (O : c.Ok) :
    Top hd.view_39 (looseW hd.view_39 [Str.ofString "BTClibValueError", Str.ofString "BTClibTypeError", Str.ofString "bytes_from_octets", Str.ofString "encode", Str.ofString "decode"]) c.mean c.mg c.mb g := O.TB.keeps I.B.stays

/-- the heap has grown, by nothing that is known -/
theorem Inv.grow {c : Cx} {g : Heap} {as : List Nat} {ρ : Loc} {σ : List Cell} {s : Shared} (I : Inv c g as ρ σ s) {h' : Heap} {k : Nat} (hk : ∀ b o, s.heap.get? b = some o → h'.get? b = some o) :
    Inv c g as ρ σ { s with heap := h', toks := k } := by
  obtain ⟨B, D, sim, nd, off, m, led, F, N, e, l, t⟩ := I
  refine ⟨B, D, ?_, nd, off, m, led, ⟨?_, fun b o q => hk _ _ (F.keep b o q), F.above⟩, fun p hp => ⟨hk _ _ (N p hp).1, (N p hp).2⟩, e, l, t⟩
  · rw [sim]
  · exact F.ns.keeps hk
theorem Inv.tok {c : Cx} {g : Heap} {as : List Nat} {ρ : Loc} {σ : List Cell} {s : Shared} (I : Inv c g as ρ σ s) (k : Nat) : Inv c g as ρ σ { s with toks := k } :=
  I.grow (h' := s.heap) fun _ _ e => e

inductive Res where
  | val (v : V) (σ : List Cell)
  | exc (hb : Bool) (C : Nat) (σ : List Cell)

/-- an exception of the class C is on its way in the frame -/
def EscAt (c : Cx) (g : Heap) (as : List Nat) (σ : List Cell) (hb : Bool) (C e : Nat) (s' : Shared) : Prop :=
  Below c.A₀ c.base c.outer g ∧ KtsDicts c.fs g ∧ s' = { c.s₀ with heap := s'.heap, toks := s'.toks } ∧ as.Nodup ∧ (∀ i a, c.k ≤ i → as[i]? = some a → ∀ p ∈ c.fz, p.1 ≠ a) ∧ ∃ led m, led.map (·.1) = as ∧ Sto as σ led ∧
    ((hb = true ∧ ∃ h vs, Fr g c.L h m ∧ News g c.L h (c.fz ++ led) ∧ Heap.MadeExcOf h s'.heap e (.ref C) vs) ∨
     (hb = false ∧ ∃ G t vs, Fr g c.L G m ∧ RaisedS c.base G (c.env :: c.outer) e (.ref C) t vs (c.fz ++ led) s'.heap ∧ G.UpToSlots s'.heap))

def ECont (c : Cx) (g : Heap) (as : List Nat) (E : Value → Shared → Prop) (hb : Bool) (C : Nat) (σ' : List Cell) : Prop :=
  ∀ g' as' e s', Tn c g g' → Ext as as' → EscAt c g' as' σ' hb C e s' → E (.ref e) s'

def EvCont (c : Cx) (g : Heap) (as : List Nat) (ρ : Loc) (Q E : Value → Shared → Prop) : Res → Prop
  | .val v σ' => ∀ g' as' s' x, Tn c g g' → Ext as as' → Inv c g' as' ρ σ' s' → Rep as' v x → Q x s'
  | .exc hb C σ' => ECont c g as E hb C σ'

/-- a tree that gives a value -/
def Tr (c : Cx) (ρ : Loc) (σ : List Cell) (g : Heap) (as : List Nat) (s : Shared) (t : Sem Value) (o : Res) : Prop :=
  ∀ Q E, EvCont c g as ρ Q E o → wpAny (model PR c.w) c.A t Q E s

def Ev (c : Cx) (ρ : Loc) (σ : List Cell) (e : PySem.Expr) (o : Res) : Prop :=
  ∀ g as s, Inv c g as ρ σ s → Tr c ρ σ g as s (eval e c.env) o

inductive Out where
  | next (ρ : Loc) (σ : List Cell)
  | ret (v : V) (σ : List Cell)
  | exc (hb : Bool) (C : Nat) (σ : List Cell)

def ExCont (c : Cx) (g : Heap) (as : List Nat) (Q : Flow → Shared → Prop) (E : Value → Shared → Prop) : Out → Prop
  | .next ρ' σ' => ∀ g' as' s', Tn c g g' → Ext as as' → Inv c g' as' ρ' σ' s' → Q .next s'
  | .ret v σ' => ∀ g' as' ρ' s' x, Tn c g g' → Ext as as' → Inv c g' as' ρ' σ' s' → Rep as' v x → Q (.ret x) s'
  | .exc hb C σ' => ECont c g as E hb C σ'

def Ex (c : Cx) (ρ : Loc) (σ : List Cell) (body : List Stmt) (o : Out) : Prop :=
  ∀ g as s Q E, Inv c g as ρ σ s → ExCont c g as Q E o → wpAny (model PR c.w) c.A (execs body c.env) Q E s
/-- one statement -/
def Ex1 (c : Cx) (ρ : Loc) (σ : List Cell) (st : Stmt) (o : Out) : Prop :=
  ∀ g as s Q E, Inv c g as ρ σ s → ExCont c g as Q E o → wpAny (model PR c.w) c.A (exec st c.env) Q E s
/-- a test -/
def Tst (c : Cx) (ρ : Loc) (σ : List Cell) (e : PySem.Expr) (b : Bool) (σ' : List Cell) : Prop :=
  ∀ g as s (Q : Bool → Shared → Prop) E, Inv c g as ρ σ s → (∀ g' as' s', Tn c g g' → Ext as as' → Inv c g' as' ρ σ' s' → Q b s') → wpAny (model PR c.w) c.A (isTrue e c.env (eval e c.env)) Q E s

theorem ECont.mono {c : Cx} {g g' : Heap} {as as' : List Nat} {E : Value → Shared → Prop} {hb : Bool} {C : Nat} {σ' : List Cell} (h : ECont c g as E hb C σ') (t : Tn c g g') (x : Ext as as') : ECont c g' as' E hb C σ' :=
  fun g₂ as₂ e s₂ t' x' k => h g₂ as₂ e s₂ (t.trans t') (x.trans x') k
theorem EvCont.mono {c : Cx} {g g' : Heap} {as as' : List Nat} {ρ : Loc} {Q E : Value → Shared → Prop} {o : Res} (h : EvCont c g as ρ Q E o) (t : Tn c g g') (x : Ext as as') : EvCont c g' as' ρ Q E o := by
  cases o with
  | val v σ => exact fun g₂ as₂ s₂ y t' x' k r => h g₂ as₂ s₂ y (t.trans t') (x.trans x') k r
  | exc hb C σ => exact ECont.mono h t x
theorem ExCont.mono {c : Cx} {g g' : Heap} {as as' : List Nat} {Q : Flow → Shared → Prop} {E : Value → Shared → Prop} {o : Out} (h : ExCont c g as Q E o) (t : Tn c g g') (x : Ext as as') : ExCont c g' as' Q E o := by
  cases o with
  | next ρ σ => exact fun g₂ as₂ s₂ t' x' k => h g₂ as₂ s₂ (t.trans t') (x.trans x') k
  | ret v σ => exact fun g₂ as₂ ρ₂ s₂ y t' x' k r => h g₂ as₂ ρ₂ s₂ y (t.trans t') (x.trans x') k r
  | exc hb C σ => exact ECont.mono h t x

section
variable {c : Cx} {ρ : Loc} {σ σ₁ σ₂ σ₃ : List Cell}

theorem Ex.nil : Ex c ρ σ [] (.next ρ σ) := fun g as s Q E I k => wpAny_execs_nil (k g as s .refl .refl I)

theorem Ex.next {st : Stmt} {rest : List Stmt} {ρ' : Loc} {o : Out} (h : Ex1 c ρ σ st (.next ρ' σ₁)) (k : Ex c ρ' σ₁ rest o) : Ex c ρ σ (st :: rest) o :=
  fun g as s Q E I K => wpAny_execs_cons (h g as s _ E I fun g' as' s' t x I' => k g' as' s' Q E I' (K.mono t x))
theorem Ex.ret {st : Stmt} {rest : List Stmt} {v : V} (h : Ex1 c ρ σ st (.ret v σ₁)) : Ex c ρ σ (st :: rest) (.ret v σ₁) :=
  fun g as s Q E I K => wpAny_execs_cons (h g as s _ E I fun g' as' ρ' s' y t x I' r => K g' as' ρ' s' y t x I' r)
theorem Ex.exc {st : Stmt} {rest : List Stmt} {hb : Bool} {C : Nat} (h : Ex1 c ρ σ st (.exc hb C σ₁)) : Ex c ρ σ (st :: rest) (.exc hb C σ₁) :=
  fun g as s Q E I K => wpAny_execs_cons (h g as s _ E I K)

/-- the outcome of an Ev read as one of a statement -/
theorem Ev.val {e : PySem.Expr} {v : V} (h : Ev c ρ σ e (.val v σ₁)) {g : Heap} {as : List Nat} {s : Shared} {Q E : Value → Shared → Prop} (I : Inv c g as ρ σ s)
    (k : ∀ g' as' s' x, Tn c g g' → Ext as as' → Inv c g' as' ρ σ₁ s' → Rep as' v x → Q x s') : wpAny (model PR c.w) c.A (eval e c.env) Q E s := h g as s I Q E k
end
end Mine

/-! F2 -/
namespace Mine

theorem fill (w : World) (h : Heap) : (hd.heap_39 w.params).In h → PySem.Challenge.rw_bv5002_01 = PySem.Challenge.rw_bv5002_01 := by
  k_fill
  intro _
  rfl

section
variable {c : Cx} {ρ ρ' : Loc} {σ σ₁ σ₂ σ₃ σ₄ : List Cell} {o : Res}

theorem Inv.get {g : Heap} {as : List Nat} {s : Shared} (I : Inv c g as ρ σ s) {x : PySem.Str} {v : V} (h : ρ.lookup x = some v) : ∃ m val, Fr g c.L s.heap m ∧ m x = some val ∧ Rep as v val := by
  obtain ⟨_, _, _, _, _, m, led, F, _, _, l, _⟩ := I
  obtain ⟨val, a, b⟩ := l x v h
  exact ⟨m, val, F, a, b⟩
theorem Inv.fr {g : Heap} {as : List Nat} {s : Shared} (I : Inv c g as ρ σ s) : ∃ m led, Fr g c.L s.heap m ∧ News g c.L s.heap (c.fz ++ led) := by
  obtain ⟨_, _, _, _, _, m, led, F, N, _, _, _⟩ := I
  exact ⟨m, led, F, N⟩

/-- the frame's store into a local name -/
theorem Inv.store {g : Heap} {as : List Nat} {s : Shared} {x : PySem.Str} {v : V} {val : Value} {Q : Unit → Shared → Prop} {E : Value → Shared → Prop} (O : c.Ok) (I : Inv c g as ρ σ s) (r : Rep as v val)
    (hl : c.scope.names.lookup x = some .local) (k : ∀ s', Inv c g as (setL x v ρ) σ s' → Q () s') : wpAny (model PR c.w) c.A (storeName c.env x val) Q E s := by
  obtain ⟨B, D, sim, nd, off, m, led, F, N, e, l, t⟩ := I
  refine stN F N (fun h' F' N' => k _ ⟨B, D, ?_, nd, off, _, led, F', N', e, l.set r, t⟩) O.hk hl
  rw [sim]

/-! ### names and constants -/
theorem Ev.local {x : PySem.Str} {pos : Pos} {v : V} (h : ρ.lookup x = some v) (O : c.Ok) (hl : c.scope.names.lookup x = some .local) (hd : (x == ("__debug__" : PySem.Str)) = false := by decide) : Ev c ρ σ (.Name x pos) (.val v σ) :=
  fun g as s I Q E K => by
    obtain ⟨m, val, F, e, r⟩ := I.get h
    exact ld F e (K g as s val .refl .refl I r) O.hk hl hd

theorem Ev.global {x : PySem.Str} {pos : Pos} {v : V} {val : Value} (O : c.Ok) (e : nsIn (hd.heap_39 c.w.params) mainGlobals x = some (some val)) (r : Rep [] v val) (hx : c.scope.names.lookup x = some .globalImplicit)
    (hd : (x == ("__debug__" : PySem.Str)) = false := by decide) : Ev c ρ σ (.Name x pos) (.val v σ) :=
  fun g as s I Q E K => by
    obtain ⟨m, led, F, N⟩ := I.fr
    exact name_K F (I.X O) (topRead_of (I.T O)) e (K g as s val .refl .refl I (r.ext ⟨as, rfl⟩)) O.hk hx hd
theorem Ev.boot {x : PySem.Str} {pos : Pos} {v : V} {val : Value} (O : c.Ok) (e : nsIn (hd.heap_39 c.w.params) mainGlobals x = some none) (hv : bootBuiltins x = some val) (r : Rep [] v val) (hx : c.scope.names.lookup x = some .globalImplicit)
    (hn : x ≠ "__name__" := by decide) (hd : (x == ("__debug__" : PySem.Str)) = false := by decide) : Ev c ρ σ (.Name x pos) (.val v σ) :=
  fun g as s I Q E K => by
    obtain ⟨m, led, F, N⟩ := I.fr
    exact name_B F (I.X O) (topRead_of (I.T O)) e hv hn (K g as s val .refl .refl I (r.ext ⟨as, rfl⟩)) O.hk hx hd

theorem Ev.cnone {k : Nat} {pos : Pos} : Ev c ρ σ (.Constant .none k pos) (.val .none σ) := fun g as s I Q E K => wpAny_Constant_none (K g as s _ .refl .refl I .none)
theorem Ev.cbool {k : Nat} {pos : Pos} {b : Bool} : Ev c ρ σ (.Constant (.bool b) k pos) (.val (.bool b) σ) := fun g as s I Q E K => wpAny_Constant_bool (K g as s _ .refl .refl I (.bool b))
theorem Ev.cint {k : Nat} {pos : Pos} {i : Int} : Ev c ρ σ (.Constant (.int i) k pos) (.val (.int i) σ) := fun g as s I Q E K => wpAny_Constant_int (K g as _ _ .refl .refl (I.tok _) (.int i _))
theorem Ev.cstr {k : Nat} {pos : Pos} {x : PySem.Str} : Ev c ρ σ (.Constant (.str x) k pos) (.val (.str x) σ) := fun g as s I Q E K => wpAny_Constant_str (K g as _ _ .refl .refl (I.tok _) (.str x _))
theorem Ev.cbytes {k : Nat} {pos : Pos} {b : List UInt8} : Ev c ρ σ (.Constant (.bytes b) k pos) (.val (.bytes b) σ) := fun g as s I Q E K => Constant_bytes (K g as _ _ .refl .refl (I.tok _) (.bytes b _))

/-! ### operations on values -/
def Op1 (c : Cx) (σ : List Cell) (v : V) (t : Value → Sem Value) (o : Res) : Prop := ∀ ρ g as s a, Inv c g as ρ σ s → Rep as v a → Tr c ρ σ g as s (t a) o
def Op2 (c : Cx) (σ : List Cell) (v u : V) (t : Value → Value → Sem Value) (o : Res) : Prop := ∀ ρ g as s a b, Inv c g as ρ σ s → Rep as v a → Rep as u b → Tr c ρ σ g as s (t a b) o
def OpN (c : Cx) (σ : List Cell) (vs : List V) (t : List Value → Sem Value) (o : Res) : Prop := ∀ ρ g as s xs, Inv c g as ρ σ s → RepAll as vs xs → Tr c ρ σ g as s (t xs) o
def Tru (c : Cx) (σ : List Cell) (v : V) (b : Bool) : Prop := ∀ ρ g as s a (Q : Bool → Shared → Prop) E, Inv c g as ρ σ s → Rep as v a → (∀ s', Inv c g as ρ σ s' → Q b s') → wpAny (model PR c.w) c.A (truthy a) Q E s

theorem Ev.bin {l r : PySem.Expr} {op : Operator} {pos : Pos} {v u : V} (hl : Ev c ρ σ l (.val v σ₁)) (hr : Ev c ρ σ₁ r (.val u σ₂)) (ho : Op2 c σ₂ v u (binaryOp op) o) : Ev c ρ σ (.BinOp l op r pos) o :=
  fun g as s I Q E K => wpAny_BinOp (hl.val I fun g₁ as₁ s₁ a t₁ x₁ I₁ ra => hr.val I₁ fun g₂ as₂ s₂ b t₂ x₂ I₂ rb => ho ρ g₂ as₂ s₂ a b I₂ (ra.ext x₂) rb Q E (K.mono (t₁.trans t₂) (x₁.trans x₂)))
theorem Ev.un {e : PySem.Expr} {op : UnaryOp} {pos : Pos} {v : V} (h : Ev c ρ σ e (.val v σ₁)) (ho : Op1 c σ₁ v (unaryOp op) o) : Ev c ρ σ (.UnaryOp op e pos) o :=
  fun g as s I Q E K => wpAny_UnaryOp (h.val I fun g₁ as₁ s₁ a t₁ x₁ I₁ ra => ho ρ g₁ as₁ s₁ a I₁ ra Q E (K.mono t₁ x₁))
theorem Ev.cmp {l r : PySem.Expr} {op : CmpOp} {pos : Pos} {v u : V} (hl : Ev c ρ σ l (.val v σ₁)) (hr : Ev c ρ σ₁ r (.val u σ₂)) (ho : Op2 c σ₂ v u (compareOp op) o) (hm : behindInMarks op r = false := by with_unfolding_all rfl) :
    Ev c ρ σ (.Compare l [op] [r] pos) o :=
  fun g as s I Q E K => wpAny_Compare1 (hl.val I fun g₁ as₁ s₁ a t₁ x₁ I₁ ra => hr.val I₁ fun g₂ as₂ s₂ b t₂ x₂ I₂ rb => ho ρ g₂ as₂ s₂ a b I₂ (ra.ext x₂) rb Q E (K.mono (t₁.trans t₂) (x₁.trans x₂))) hm
theorem Ev.ifT {t b e : PySem.Expr} {pos : Pos} (h : Tst c ρ σ t true σ₁) (k : Ev c ρ σ₁ b o) : Ev c ρ σ (.IfExp t b e pos) o :=
  fun g as s I Q E K => wpAny_IfExp (h g as s _ E I fun g₁ as₁ s₁ t₁ x₁ I₁ => k g₁ as₁ s₁ I₁ Q E (K.mono t₁ x₁))
theorem Ev.ifF {t b e : PySem.Expr} {pos : Pos} (h : Tst c ρ σ t false σ₁) (k : Ev c ρ σ₁ e o) : Ev c ρ σ (.IfExp t b e pos) o :=
  fun g as s I Q E K => wpAny_IfExp (h g as s _ E I fun g₁ as₁ s₁ t₁ x₁ I₁ => k g₁ as₁ s₁ I₁ Q E (K.mono t₁ x₁))
theorem Ev.andF {x y : PySem.Expr} {pos : Pos} {v : V} (h : Ev c ρ σ x (.val v σ₁)) (ht : Tru c σ₁ v false) : Ev c ρ σ (.BoolOp .And [x, y] pos) (.val v σ₁) :=
  fun g as s I Q E K => wpAny_And2 (h.val I fun g₁ as₁ s₁ a t₁ x₁ I₁ ra => ht ρ g₁ as₁ s₁ a _ E I₁ ra fun s₂ I₂ => K g₁ as₁ s₂ a t₁ x₁ I₂ ra)
theorem Ev.andT {x y : PySem.Expr} {pos : Pos} {v : V} (h : Ev c ρ σ x (.val v σ₁)) (ht : Tru c σ₁ v true) (k : Ev c ρ σ₁ y o) : Ev c ρ σ (.BoolOp .And [x, y] pos) o :=
  fun g as s I Q E K => wpAny_And2 (h.val I fun g₁ as₁ s₁ a t₁ x₁ I₁ ra => ht ρ g₁ as₁ s₁ a _ E I₁ ra fun s₂ I₂ => k g₁ as₁ s₂ I₂ Q E (K.mono t₁ x₁))

/-! ### tests -/
theorem Tst.of {e : PySem.Expr} {v : V} {b : Bool} (h : Ev c ρ σ e (.val v σ₁)) (ht : Tru c σ₁ v b) (he : ∀ (env : Env) (whole : Sem Value), isTrue e env whole = (do let v ← whole; standAt e.pos; holding [v] (truthy v)) := by intro _ _; rfl) : Tst c ρ σ e b σ₁ :=
  fun g as s Q E I k => wpAny_isTrue_value (h.val I fun g₁ as₁ s₁ a t₁ x₁ I₁ ra => ht ρ g₁ as₁ s₁ a Q E I₁ ra fun s₂ I₂ => k g₁ as₁ s₂ t₁ x₁ I₂) (he _ _)
theorem Tst.cmp {l r : PySem.Expr} {op : CmpOp} {pos : Pos} {v u : V} {b : Bool} (hl : Ev c ρ σ l (.val v σ₁)) (hr : Ev c ρ σ₁ r (.val u σ₂)) (ho : Op2 c σ₂ v u (compareOp op) (.val (.bool b) σ₃)) (hm : behindInMarks op r = false := by with_unfolding_all rfl) :
    Tst c ρ σ (.Compare l [op] [r] pos) b σ₃ :=
  fun g as s Q E I k => wpAny_isTrue_Compare1 (hl.val I fun g₁ as₁ s₁ a t₁ x₁ I₁ ra => hr.val I₁ fun g₂ as₂ s₂ d t₂ x₂ I₂ rb => ho ρ g₂ as₂ s₂ a d I₂ (ra.ext x₂) rb _ E fun g₃ as₃ s₃ y t₃ x₃ I₃ ry => by
    cases ry
    exact wpAny_truthy_bool (k g₃ as₃ s₃ ((t₁.trans t₂).trans t₃) ((x₁.trans x₂).trans x₃) I₃)) hm
theorem Tst.not {e : PySem.Expr} {pos : Pos} {b : Bool} (h : Tst c ρ σ e b σ₁) : Tst c ρ σ (.UnaryOp .Not e pos) (!b) σ₁ :=
  fun g as s Q E I k => wpAny_isTrue_Not (h g as s _ E I k)

/-- the list of an and, an or -/
def Tsts (c : Cx) (ρ : Loc) (σ : List Cell) (op : BoolOp) (es : List PySem.Expr) (b : Bool) (σ' : List Cell) : Prop :=
  ∀ g as s (Q : Bool → Shared → Prop) E, Inv c g as ρ σ s → (∀ g' as' s', Tn c g g' → Ext as as' → Inv c g' as' ρ σ' s' → Q b s') → wpAny (model PR c.w) c.A (allTrue op es c.env) Q E s
theorem Tst.bool {op : BoolOp} {es : List PySem.Expr} {pos : Pos} {b : Bool} (h : Tsts c ρ σ op es b σ₁) : Tst c ρ σ (.BoolOp op es pos) b σ₁ :=
  fun g as s Q E I k => wpAny_isTrue_BoolOp (h g as s Q E I k)
theorem Tsts.andNil : Tsts c ρ σ .And [] true σ := fun g as s Q E I k => wpAny_allTrue_And_nil (k g as s .refl .refl I)
theorem Tsts.orNil : Tsts c ρ σ .Or [] false σ := fun g as s Q E I k => wpAny_allTrue_Or_nil (k g as s .refl .refl I)
theorem Tsts.andF {e : PySem.Expr} {r : List PySem.Expr} (h : Tst c ρ σ e false σ₁) : Tsts c ρ σ .And (e :: r) false σ₁ := fun g as s Q E I k => wpAny_allTrue_And_cons (h g as s _ E I k)
theorem Tsts.andT {e : PySem.Expr} {r : List PySem.Expr} {b : Bool} (h : Tst c ρ σ e true σ₁) (q : Tsts c ρ σ₁ .And r b σ₂) : Tsts c ρ σ .And (e :: r) b σ₂ :=
  fun g as s Q E I k => wpAny_allTrue_And_cons (h g as s _ E I fun g₁ as₁ s₁ t₁ x₁ I₁ => q g₁ as₁ s₁ Q E I₁ fun g₂ as₂ s₂ t₂ x₂ I₂ => k g₂ as₂ s₂ (t₁.trans t₂) (x₁.trans x₂) I₂)
theorem Tsts.orT {e : PySem.Expr} {r : List PySem.Expr} (h : Tst c ρ σ e true σ₁) : Tsts c ρ σ .Or (e :: r) true σ₁ := fun g as s Q E I k => wpAny_allTrue_Or_cons (h g as s _ E I k)
theorem Tsts.orF {e : PySem.Expr} {r : List PySem.Expr} {b : Bool} (h : Tst c ρ σ e false σ₁) (q : Tsts c ρ σ₁ .Or r b σ₂) : Tsts c ρ σ .Or (e :: r) b σ₂ :=
  fun g as s Q E I k => wpAny_allTrue_Or_cons (h g as s _ E I fun g₁ as₁ s₁ t₁ x₁ I₁ => q g₁ as₁ s₁ Q E I₁ fun g₂ as₂ s₂ t₂ x₂ I₂ => k g₂ as₂ s₂ (t₁.trans t₂) (x₁.trans x₂) I₂)

/-! ### statements -/
theorem Ex1.assign {x : PySem.Str} {px pos : Pos} {e : PySem.Expr} {v : V} (h : Ev c ρ σ e (.val v σ₁)) (O : c.Ok) (hl : c.scope.names.lookup x = some .local)
    (hs : swapsWith e (some (.Name x px)) pos.line c.env = pure false := by rfl) : Ex1 c ρ σ (.Assign [.Name x px] e pos) (.next (setL x v ρ) σ₁) :=
  fun g as s Q E I K => wpAny_Assign_Name (h.val I fun g₁ as₁ s₁ a t₁ x₁ I₁ ra => I₁.store O ra hl fun s₂ I₂ => K g₁ as₁ s₂ t₁ x₁ I₂) hs
theorem Ex1.assignX {x : PySem.Str} {px pos : Pos} {e : PySem.Expr} {hb : Bool} {C : Nat} (h : Ev c ρ σ e (.exc hb C σ₁))
    (hs : swapsWith e (some (.Name x px)) pos.line c.env = pure false := by rfl) : Ex1 c ρ σ (.Assign [.Name x px] e pos) (.exc hb C σ₁) :=
  fun g as s Q E I K => wpAny_Assign_Name (h g as s I _ E K) hs
theorem Ex1.aug {x : PySem.Str} {px pos : Pos} {op : Operator} {e : PySem.Expr} {v u y : V} (hv : ρ.lookup x = some v) (h : Ev c ρ σ e (.val u σ₁)) (ho : Op2 c σ₁ v u (inplaceOp op) (.val y σ₂)) (O : c.Ok)
    (hl : c.scope.names.lookup x = some .local) : Ex1 c ρ σ (.AugAssign (.Name x px) op e pos) (.next (setL x y ρ) σ₂) :=
  fun g as s Q E I K => by
    obtain ⟨m, val, F, em, r⟩ := I.get hv
    exact wpAny_AugAssign_Name (ldn F em (h.val I fun g₁ as₁ s₁ a t₁ x₁ I₁ ra => ho ρ g₁ as₁ s₁ val a I₁ (r.ext x₁) ra _ E fun g₂ as₂ s₂ b t₂ x₂ I₂ rb =>
      I₂.store O rb hl fun s₃ I₃ => K g₂ as₂ s₃ (t₁.trans t₂) (x₁.trans x₂) I₃) O.hk hl)
theorem Ex1.ifT {t : PySem.Expr} {body els : List Stmt} {pos : Pos} {o : Out} (h : Tst c ρ σ t true σ₁) (k : Ex c ρ σ₁ body o) : Ex1 c ρ σ (.If t body els pos) o :=
  fun g as s Q E I K => wpAny_If (h g as s _ E I fun g₁ as₁ s₁ t₁ x₁ I₁ => k g₁ as₁ s₁ Q E I₁ (K.mono t₁ x₁))
theorem Ex1.ifF {t : PySem.Expr} {body els : List Stmt} {pos : Pos} {o : Out} (h : Tst c ρ σ t false σ₁) (k : Ex c ρ σ₁ els o) : Ex1 c ρ σ (.If t body els pos) o :=
  fun g as s Q E I K => wpAny_If (h g as s _ E I fun g₁ as₁ s₁ t₁ x₁ I₁ => k g₁ as₁ s₁ Q E I₁ (K.mono t₁ x₁))
theorem Ex1.pass {pos : Pos} : Ex1 c ρ σ (.Pass pos) (.next ρ σ) := fun g as s Q E I K => wpAny_Pass (K g as s .refl .refl I)
theorem Ex1.ret {e : PySem.Expr} {pos : Pos} {v : V} (h : Ev c ρ σ e (.val v σ₁)) : Ex1 c ρ σ (.Return (some e) pos) (.ret v σ₁) :=
  fun g as s Q E I K => wpAny_Return_some (h.val I fun g₁ as₁ s₁ a t₁ x₁ I₁ ra => K g₁ as₁ ρ s₁ a t₁ x₁ I₁ ra)
theorem Ex1.retX {e : PySem.Expr} {pos : Pos} {hb : Bool} {C : Nat} (h : Ev c ρ σ e (.exc hb C σ₁)) : Ex1 c ρ σ (.Return (some e) pos) (.exc hb C σ₁) :=
  fun g as s Q E I K => wpAny_Return_some (h g as s I _ E K)
/-- a value that is no object -/
def V.plain : V → Bool
  | .ref _ => false
  | .fn _ => false
  | _ => true
theorem Rep.noref {as : List Nat} {v : V} {x : Value} (r : Rep as v x) (h : v.plain = true) : ∀ a, x ≠ .ref a := by
  cases r <;> first | (intro a e; cases e; done) | cases h
theorem Ex1.expr {e : PySem.Expr} {pos : Pos} {v : V} (h : Ev c ρ σ e (.val v σ₁)) (hp : v.plain = true) (O : c.Ok) (hs : swapsWith e none pos.line c.env = pure false := by rfl) : Ex1 c ρ σ (.Expr e pos) (.next ρ σ₁) :=
  fun g as s Q E I K => by
    refine wpAny_Expr (h.val I fun g₁ as₁ s₁ a t₁ x₁ I₁ ra => ?_) ?_ hs
    · have := ra.noref hp
      cases a <;> first | exact K g₁ as₁ s₁ t₁ x₁ I₁ | exact absurd rfl (this _)
    · show (c.scope.kind == .module && _) = false
      rw [O.hk]
      rfl
theorem Ex1.exprX {e : PySem.Expr} {pos : Pos} {hb : Bool} {C : Nat} (h : Ev c ρ σ e (.exc hb C σ₁)) (O : c.Ok) (hs : swapsWith e none pos.line c.env = pure false := by rfl) : Ex1 c ρ σ (.Expr e pos) (.exc hb C σ₁) :=
  fun g as s Q E I K => by
    refine wpAny_Expr (h g as s I _ E K) ?_ hs
    show (c.scope.kind == .module && _) = false
    rw [O.hk]
    rfl
end
end Mine

/-! F3 -/
namespace Mine
section
variable {c : Cx} {ρ ρ' : Loc} {σ σ₁ σ₂ σ₃ σ₄ : List Cell} {o : Res}

/-! ### arguments -/
def Evs (c : Cx) (ρ : Loc) (σ : List Cell) (pos : Pos) (es : List PySem.Expr) (vs : List V) (σ' : List Cell) : Prop :=
  ∀ g as s (Q : List Value → Shared → Prop) E, Inv c g as ρ σ s → (∀ g' as' s' xs, Tn c g g' → Ext as as' → Inv c g' as' ρ σ' s' → RepAll as' vs xs → Q xs s') →
    wpAny (model PR c.w) c.A (spliced (backTo pos (starEach es c.env))) Q E s
theorem Evs.nil {pos : Pos} : Evs c ρ σ pos [] [] σ := fun g as s Q E I k => spliced_none (k g as s [] .refl .refl I .nil)
theorem Evs.cons {pos : Pos} {e : PySem.Expr} {r : List PySem.Expr} {v : V} {vs : List V} (h : Ev c ρ σ e (.val v σ₁)) (q : Evs c ρ σ₁ pos r vs σ₂)
    (he : starEach (e :: r) c.env = (false, eval e c.env) :: starEach r c.env := by rfl) : Evs c ρ σ pos (e :: r) (v :: vs) σ₂ :=
  fun g as s Q E I k => spliced_more (h.val I fun g₁ as₁ s₁ a t₁ x₁ I₁ ra => q g₁ as₁ s₁ _ E I₁ fun g₂ as₂ s₂ xs t₂ x₂ I₂ rs => k g₂ as₂ s₂ (a :: xs) (t₁.trans t₂) (x₁.trans x₂) I₂ (.cons (ra.ext x₂) rs)) he

def Kws (c : Cx) (ρ : Loc) (σ : List Cell) (pos : Pos) (ks : List Keyword) (vs : List V) (σ' : List Cell) : Prop :=
  ∀ g as s (Q : List Value → Shared → Prop) E, Inv c g as ρ σ s → (∀ g' as' s' xs, Tn c g g' → Ext as as' → Inv c g' as' ρ σ' s' → RepAll as' vs xs → Q xs s') →
    wpAny (model PR c.w) c.A (evalAll ((backToKw pos (keywordEach ks c.env)).map (·.2))) Q E s
theorem Kws.nil {pos : Pos} : Kws c ρ σ pos [] [] σ := fun g as s Q E I k => kwAll_nil (k g as s [] .refl .refl I .nil)
theorem Kws.cons {pos p : Pos} {n : PySem.Str} {e : PySem.Expr} {r : List Keyword} {v : V} {vs : List V} (h : Ev c ρ σ e (.val v σ₁)) (q : Kws c ρ σ₁ pos r vs σ₂) : Kws c ρ σ pos (⟨some n, e, p⟩ :: r) (v :: vs) σ₂ :=
  fun g as s Q E I k => kwAll_cons (h.val I fun g₁ as₁ s₁ a t₁ x₁ I₁ ra => q g₁ as₁ s₁ _ E I₁ fun g₂ as₂ s₂ xs t₂ x₂ I₂ rs => k g₂ as₂ s₂ (a :: xs) (t₁.trans t₂) (x₁.trans x₂) I₂ (.cons (ra.ext x₂) rs))

/-- who is called is no object of the call's own -/
def Keep (c : Cx) (f : Value) : Prop := ∀ h : Heap, (hd.heap_39 c.w.params).In h → ∃ k, (k = Keeper.frame ∨ k = Keeper.machine ∨ k = Keeper.boundFrame) ∧ Looks (model PR c.w) h (keeperOf f) k
theorem Keep.ty {n : String} : Keep c (.type n) := fun h X => ⟨.machine, .inr (.inl rfl), Looks.of_pure rfl⟩
theorem Keep.bi {n : String} : Keep c (.builtin n) := fun h X => ⟨.machine, .inr (.inl rfl), Looks.of_pure rfl⟩
theorem Keep.fn {a : Nat} (e : keepIn (hd.heap_39 c.w.params) (.ref a) = true) : Keep c (.ref a) := fun h X => by
  obtain ⟨k, a, b⟩ := looks_keep (M := model PR c.w) e X
  exact ⟨k, a.elim .inl fun e => .inr (.inl e), b⟩

/-- callWith, the callee's value and its first arguments at hand -/
theorem call_with {pos : Pos} {f : Value} {first : List Value} {e : PySem.Expr} {es : List PySem.Expr} {ks : List Keyword} {vs us : List V} {g : Heap} {as : List Nat} {s : Shared} {Q E : Value → Shared → Prop} (O : c.Ok)
    (hk : Keep c f) (he : Evs c ρ σ pos (e :: es) vs σ₁) (hks : Kws c ρ σ₁ pos ks us σ₂) (I : Inv c g as ρ σ s)
    (h : ∀ g' as' s' xs ys, Tn c g g' → Ext as as' → Inv c g' as' ρ σ₂ s' → RepAll as' vs xs → RepAll as' us ys → wpAny (model PR c.w) c.A (PySem.call f (first ++ xs) (((backToKw pos (keywordEach ks c.env)).filterMap (·.1)).zip ys)) Q E s')
    (hn : starEach (e :: es) c.env = (false, eval e c.env) :: starEach es c.env := by rfl)
    (hp : ((backTo pos (starEach (e :: es) c.env)).any (·.1) || (backToKw pos (keywordEach ks c.env)).any (·.1.isNone)) = false := by rfl)
    (hall : (backToKw pos (keywordEach ks c.env)).all (·.1.isSome) = true := by rfl) :
    wpAny (model PR c.w) c.A (callWith pos f first (backTo pos (starEach (e :: es) c.env)) (backToKw pos (keywordEach ks c.env))) Q E s := by
  refine callWith_of (P := fun h => (hd.heap_39 c.w.params).In h) hp hk (evalArgs_kw2 hall (he g as s _ E I ?_) hn)
  exact fun g₁ as₁ s₁ xs t₁ x₁ I₁ r₁ => hks g₁ as₁ s₁ _ E I₁ fun g₂ as₂ s₂ ys t₂ x₂ I₂ r₂ => by
    obtain ⟨m, led, F, N⟩ := I₂.fr
    exact ⟨(I₂.X O).keeps F.keep, h g₂ as₂ s₂ xs ys (t₁.trans t₂) (x₁.trans x₂) I₂ (r₁.ext x₂) r₂⟩
theorem call_with0 {pos : Pos} {f : Value} {first : List Value} {g : Heap} {as : List Nat} {s : Shared} {Q E : Value → Shared → Prop} (O : c.Ok)
    (hk : Keep c f) (I : Inv c g as ρ σ s) (h : wpAny (model PR c.w) c.A (PySem.call f first []) Q E s) :
    wpAny (model PR c.w) c.A (callWith pos f first (backTo pos (starEach [] c.env)) (backToKw pos (keywordEach [] c.env))) Q E s := by
  refine callWith_of (P := fun h => (hd.heap_39 c.w.params).In h) rfl hk (evalArgs_kw2_nil rfl (kwAll_nil ?_))
  obtain ⟨m, led, F, N⟩ := I.fr
  refine ⟨(I.X O).keeps F.keep, ?_⟩
  rw [List.append_nil]
  exact h

/-- what a call of the value f gives -/
def Cl (c : Cx) (σ : List Cell) (f : Value) (vs : List V) (names : List PySem.Str) (us : List V) (o : Res) : Prop :=
  ∀ ρ g as s xs ys, Inv c g as ρ σ s → RepAll as vs xs → RepAll as us ys → Tr c ρ σ g as s (PySem.call f xs (names.zip ys)) o

theorem Ev.call {x : PySem.Str} {np pos : Pos} {e : PySem.Expr} {es : List PySem.Expr} {ks : List Keyword} {f : V} {fv : Value} {vs us : List V} (O : c.Ok) (hf : Ev c ρ σ (.Name x np) (.val f σ)) (hr : ∀ as y, Rep as f y → y = fv) (hk : Keep c fv)
    (he : Evs c ρ σ pos (e :: es) vs σ₁) (hks : Kws c ρ σ₁ pos ks us σ₂) (ho : Cl c σ₂ fv vs ((backToKw pos (keywordEach ks c.env)).filterMap (·.1)) us o)
    (hn : starEach (e :: es) c.env = (false, eval e c.env) :: starEach es c.env := by rfl)
    (hp : ((backTo pos (starEach (e :: es) c.env)).any (·.1) || (backToKw pos (keywordEach ks c.env)).any (·.1.isNone)) = false := by rfl)
    (hall : (backToKw pos (keywordEach ks c.env)).all (·.1.isSome) = true := by rfl) : Ev c ρ σ (.Call (.Name x np) (e :: es) ks pos) o :=
  fun g as s I Q E K => wpAny_Call_ofName (hf.val I fun g₁ as₁ s₁ a t₁ x₁ I₁ ra => by
    obtain rfl := hr _ _ ra
    exact call_with (first := []) O hk he hks I₁ (fun g₂ as₂ s₂ xs ys t₂ x₂ I₂ r₂ q₂ => ho ρ g₂ as₂ s₂ xs ys I₂ r₂ q₂ Q E (K.mono (t₁.trans t₂) (x₁.trans x₂))) hn hp hall)
theorem Ev.call0 {x : PySem.Str} {np pos : Pos} {f : V} {fv : Value} (O : c.Ok) (hf : Ev c ρ σ (.Name x np) (.val f σ)) (hr : ∀ as y, Rep as f y → y = fv) (hk : Keep c fv)
    (ho : Cl c σ fv [] [] [] o) : Ev c ρ σ (.Call (.Name x np) [] [] pos) o :=
  fun g as s I Q E K => wpAny_Call_ofName (hf.val I fun g₁ as₁ s₁ a t₁ x₁ I₁ ra => by
    obtain rfl := hr _ _ ra
    exact call_with0 (first := []) O hk I₁ (ho ρ g₁ as₁ s₁ [] [] I₁ .nil .nil Q E (K.mono t₁ x₁)))
theorem rep_ty {n : String} : ∀ as y, Rep as (.ty n) y → y = .type n := fun as y r => by cases r; rfl
theorem rep_bi {n : String} : ∀ as y, Rep as (.bi n) y → y = .builtin n := fun as y r => by cases r; rfl
theorem rep_fn {n : Nat} : ∀ as y, Rep as (.fn n) y → y = .ref n := fun as y r => by cases r; rfl

/-! ### methods -/
def Meth (c : Cx) (σ : List Cell) (v : V) (name : PySem.Str) (id : String) : Prop :=
  ∀ ρ g as s a (pl : Sem Bool) (Q : Value × List Value → Shared → Prop) E, Inv c g as ρ σ s → Rep as v a → Q (.builtin id, [a]) s → wpAny (model PR c.w) c.A (getMethod a name pl) Q E s
theorem Ev.meth {x : PySem.Expr} {name : PySem.Str} {apos pos : Pos} {e : PySem.Expr} {es : List PySem.Expr} {ks : List Keyword} {v : V} {id : String} {vs us : List V} {pl : Sem Bool} (O : c.Ok) (hv : Ev c ρ σ x (.val v σ₁)) (hm : Meth c σ₁ v name id)
    (he : Evs c ρ σ₁ pos (e :: es) vs σ₂) (hks : Kws c ρ σ₂ pos ks us σ₃) (ho : Cl c σ₃ (.builtin id) (v :: vs) ((backToKw pos (keywordEach ks c.env)).filterMap (·.1)) us o)
    (hq : eval (.Call (.Attribute x name apos) (e :: es) ks pos) c.env = (do
      let ov ← eval x c.env
      standAt apos.atName
      let (f, first) ← holding [ov] (getMethod ov name pl)
      callWith pos f first (backTo pos (starEach (e :: es) c.env)) (backToKw pos (keywordEach ks c.env))) := by rfl)
    (hn : starEach (e :: es) c.env = (false, eval e c.env) :: starEach es c.env := by rfl)
    (hp : ((backTo pos (starEach (e :: es) c.env)).any (·.1) || (backToKw pos (keywordEach ks c.env)).any (·.1.isNone)) = false := by rfl)
    (hall : (backToKw pos (keywordEach ks c.env)).all (·.1.isSome) = true := by rfl) : Ev c ρ σ (.Call (.Attribute x name apos) (e :: es) ks pos) o :=
  fun g as s I Q E K => methodCall_KW (hv.val I fun g₁ as₁ s₁ a t₁ x₁ I₁ ra => hm ρ g₁ as₁ s₁ a pl _ E I₁ ra
    (call_with (first := [a]) O Keep.bi he hks I₁ (fun g₂ as₂ s₂ xs ys t₂ x₂ I₂ r₂ q₂ => ho ρ g₂ as₂ s₂ (a :: xs) ys I₂ (.cons (ra.ext x₂) r₂) q₂ Q E (K.mono (t₁.trans t₂) (x₁.trans x₂))) hn hp hall)) hq
theorem Ev.meth0 {x : PySem.Expr} {name : PySem.Str} {apos pos : Pos} {v : V} {id : String} {pl : Sem Bool} (O : c.Ok) (hv : Ev c ρ σ x (.val v σ₁)) (hm : Meth c σ₁ v name id)
    (ho : Cl c σ₁ (.builtin id) [v] [] [] o)
    (hq : eval (.Call (.Attribute x name apos) [] [] pos) c.env = (do
      let ov ← eval x c.env
      standAt apos.atName
      let (f, first) ← holding [ov] (getMethod ov name pl)
      callWith pos f first (backTo pos (starEach [] c.env)) (backToKw pos (keywordEach [] c.env))) := by rfl) : Ev c ρ σ (.Call (.Attribute x name apos) [] [] pos) o :=
  fun g as s I Q E K => methodCall_KW (hv.val I fun g₁ as₁ s₁ a t₁ x₁ I₁ ra => hm ρ g₁ as₁ s₁ a pl _ E I₁ ra
    (call_with0 (first := [a]) O Keep.bi I₁ (ho ρ g₁ as₁ s₁ [a] [] I₁ (.cons ra .nil) .nil Q E (K.mono t₁ x₁)))) hq

/-! ### displays -/
theorem Inv.alloc {g : Heap} {as : List Nat} {s : Shared} {cl : Cell} {ob : Obj} (I : Inv c g as ρ σ s) (hc : CellRep as cl ob) (hfree : ob.isFreed = false) :
    Inv c g (as ++ [s.heap.objs.size]) ρ (σ ++ [cl]) { s with heap := s.heap.push ob } ∧ (as ++ [s.heap.objs.size])[σ.length]? = some s.heap.objs.size := by
  obtain ⟨B, D, sim, nd, off, m, led, F, N, e, l, t⟩ := I
  have len : as.length = σ.length := by rw [← e, List.length_map, t.length]
  refine ⟨⟨B, D, by rw [sim], ?_, ?_, m, led ++ [(s.heap.objs.size, ob)], F.push _, ?_, by simp [e], l.ext .one, (t.ext .one).snoc (hc.ext .one)⟩, ?_⟩
  · rw [List.nodup_append]
    refine ⟨nd, by simp, fun a ha b hb => ?_⟩
    rw [List.mem_singleton.mp hb]
    rw [← e] at ha
    obtain ⟨p, hp, rfl⟩ := List.mem_map.mp ha
    exact Nat.ne_of_lt (Heap.lt_size (N p (List.mem_append_right _ hp)).1)
  · intro i a hk ha p hp
    rcases Nat.lt_or_ge i as.length with hi | hi
    · rw [List.getElem?_append_left hi] at ha
      exact off i a hk ha p hp
    · rw [List.getElem?_append_right hi] at ha
      have := List.mem_of_getElem? ha
      rw [List.mem_singleton.mp this]
      exact Nat.ne_of_lt (Heap.lt_size (N p (List.mem_append_left _ hp)).1)
  · intro p hp
    have h := News.push F N ob hfree
    rw [← List.append_assoc] at hp
    rcases List.mem_append.mp hp with hp | hp
    · exact h p (.tail _ hp)
    · rw [List.mem_singleton.mp hp]
      exact h _ (.head _)
  · rw [← len, List.getElem?_append_right (Nat.le_refl _)]
    simp

theorem Ev.list {es : List PySem.Expr} {pos : Pos} {vs : List V} (h : Evs c ρ σ pos es vs σ₁) (hz : vs.length ≤ 1000) : Ev c ρ σ (.List es pos) (.val (.ref σ₁.length) (σ₁ ++ [.list vs])) :=
  fun g as s I Q E K => List_ (h g as s _ E I fun g₁ as₁ s₁ xs t₁ x₁ I₁ r₁ => by
    obtain ⟨J, q⟩ := I₁.alloc (.list 0 r₁) rfl
    exact wpAny_newObj_type (K g₁ _ _ _ t₁ (x₁.trans .one) J (.ref _ _ q)) (by show xs.toArray.size ≤ sizeLine; rw [List.size_toArray, r₁.length, sizeLine_eq]; omega))
theorem Ev.tuple {es : List PySem.Expr} {k : Nat} {pos : Pos} {vs : List V} (h : Evs c ρ σ pos es vs σ₁) (hz : vs.length ≤ 1000) : Ev c ρ σ (.Tuple es k pos) (.val (.ref σ₁.length) (σ₁ ++ [.tuple vs])) :=
  fun g as s I Q E K => Tuple_ (h g as s _ E I fun g₁ as₁ s₁ xs t₁ x₁ I₁ r₁ => by
    obtain ⟨J, q⟩ := I₁.alloc (.tuple r₁) rfl
    exact wpAny_newObj_type (K g₁ _ _ _ t₁ (x₁.trans .one) J (.ref _ _ q)) (by show xs.toArray.size ≤ sizeLine; rw [List.size_toArray, r₁.length, sizeLine_eq]; omega))

/-! ### objects of the ledger -/
theorem Inv.cell {g : Heap} {as : List Nat} {s : Shared} {i : Nat} {cl : Cell} {x : Value} (I : Inv c g as ρ σ s) (h : σ[i]? = some cl) (r : Rep as (.ref i) x) : ∃ a ob, x = .ref a ∧ s.heap.get? a = some ob ∧ CellRep as cl ob := by
  obtain ⟨B, D, sim, nd, off, m, led, F, N, e, l, t⟩ := I
  obtain ⟨p, hp, hc⟩ := t.get h
  cases r with
  | ref _ a ha =>
    rw [← e, List.getElem?_map, hp] at ha
    cases ha
    exact ⟨p.1, p.2, rfl, (N p (List.mem_append_right _ (List.mem_of_getElem? hp))).1, hc⟩

/-! ### stores into several names -/
theorem unpack_tuple {g : Heap} {as : List Nat} {s : Shared} {i n : Nat} {vs : List V} {x : Value} {Q : List Value → Shared → Prop} {E : Value → Shared → Prop} (O : c.Ok) (I : Inv c g as ρ σ s) (h : σ[i]? = some (.tuple vs)) (r : Rep as (.ref i) x) (hn : n = vs.length)
    (k : ∀ s' xs, Inv c g as ρ σ s' → RepAll as vs xs → Q xs s') : wpAny (model PR c.w) c.A (unpackItems x n none) Q E s := by
  obtain ⟨a, ob, rfl, ho, hc⟩ := I.cell h r
  cases hc with
  | tuple rs =>
    rename_i xs
    subst hn
    have ht : IsTup s.heap a xs.toArray := ⟨_, ho, rfl, _, rfl⟩
    have hl : vs.length = xs.toArray.size := by rw [List.size_toArray, rs.length]
    rw [hl]
    refine unpackItems_tuple O.hh ht fun h' he => ?_
    exact k _ _ (I.grow fun b o e => he b o (Nat.ne_of_lt (Heap.lt_size e)) e) rs

theorem Ex1.assign2 {x y : PySem.Str} {px py tpos pos : Pos} {k : Nat} {e : PySem.Expr} {i : Nat} {v u : V} (O : c.Ok) (h : Ev c ρ σ e (.val (.ref i) σ₁)) (hi : σ₁[i]? = some (.tuple [v, u])) (hx : c.scope.names.lookup x = some .local) (hy : c.scope.names.lookup y = some .local)
    (hs : swapsWithSole [.Tuple [.Name x px, .Name y py] k tpos] e pos.line c.env = pure false := by rfl) (hw : swappedStores [.Tuple [.Name x px, .Name y py] k tpos] e c.env = pure none := by rfl) :
    Ex1 c ρ σ (.Assign [.Tuple [.Name x px, .Name y py] k tpos] e pos) (.next (setL y u (setL x v ρ)) σ₁) :=
  fun g as s Q E I K => Assign_Tuple (h.val I fun g₁ as₁ s₁ a t₁ x₁ I₁ ra => by
    show wpAny _ _ (do standAt tpos; unpack a [(false, PySem.assign (.Name x px) c.env), (false, PySem.assign (.Name y py) c.env)]) _ _ _
    refine wpAny_bind (wpAny_standAt ?_)
    unfold unpack
    refine wpAny_bind (wpAny_holding (unpack_tuple O I₁ hi ra rfl fun s₂ xs I₂ rs => ?_))
    cases rs with
    | cons r1 rs =>
      cases rs with
      | cons r2 rs =>
        cases rs
        show wpAny _ _ (do holding _ (PySem.assign (.Name x px) c.env _); (do holding _ (PySem.assign (.Name y py) c.env _); pure ())) _ _ _
        refine wpAny_bind (wpAny_holding (assign_Name (I₂.store O r1 hx fun s₃ I₃ => ?_)))
        refine wpAny_bind (wpAny_holding (assign_Name (I₃.store O r2 hy fun s₄ I₄ => ?_)))
        exact wpAny_pure (K g₁ as₁ s₄ t₁ x₁ I₄)) hs hw
theorem Ex1.assign2s {x y : PySem.Str} {px py tpos pos : Pos} {k : Nat} {e : PySem.Expr} {i : Nat} {v u : V} (O : c.Ok) (h : Ev c ρ σ e (.val (.ref i) σ₁)) (hi : σ₁[i]? = some (.tuple [v, u])) (hx : c.scope.names.lookup x = some .local) (hy : c.scope.names.lookup y = some .local)
    (hs : swapsWithSole [.Tuple [.Name x px, .Name y py] k tpos] e pos.line c.env = pure false := by rfl) (hw : swappedStores [.Tuple [.Name x px, .Name y py] k tpos] e c.env = pure (some [x, y]) := by rfl) :
    Ex1 c ρ σ (.Assign [.Tuple [.Name x px, .Name y py] k tpos] e pos) (.next (setL x v (setL y u ρ)) σ₁) :=
  fun g as s Q E I K => Assign_Tuple_swapped (h.val I fun g₁ as₁ s₁ a t₁ x₁ I₁ ra => by
    refine unpack_tuple O I₁ hi ra rfl fun s₂ xs I₂ rs => ?_
    cases rs with
    | cons r1 rs =>
      cases rs with
      | cons r2 rs =>
        cases rs
        show wpAny _ _ (do holding _ (PySem.bindName c.env y _); (do holding _ (PySem.bindName c.env x _); pure ())) _ _ _
        refine wpAny_bind (wpAny_holding (bindName_ (I₂.store O r2 hy fun s₃ I₃ => ?_)))
        refine wpAny_bind (wpAny_holding (bindName_ (I₃.store O r1 hx fun s₄ I₄ => ?_)))
        exact wpAny_pure (K g₁ as₁ s₄ t₁ x₁ I₄)) hs hw
theorem Ex1.assign3 {x y z : PySem.Str} {px py pz tpos pos : Pos} {k : Nat} {e : PySem.Expr} {i : Nat} {v u t : V} (O : c.Ok) (h : Ev c ρ σ e (.val (.ref i) σ₁)) (hi : σ₁[i]? = some (.tuple [v, u, t]))
    (hx : c.scope.names.lookup x = some .local) (hy : c.scope.names.lookup y = some .local) (hz : c.scope.names.lookup z = some .local)
    (hs : swapsWithSole [.Tuple [.Name x px, .Name y py, .Name z pz] k tpos] e pos.line c.env = pure false := by rfl) (hw : swappedStores [.Tuple [.Name x px, .Name y py, .Name z pz] k tpos] e c.env = pure none := by rfl) :
    Ex1 c ρ σ (.Assign [.Tuple [.Name x px, .Name y py, .Name z pz] k tpos] e pos) (.next (setL z t (setL y u (setL x v ρ))) σ₁) :=
  fun g as s Q E I K => Assign_Tuple (h.val I fun g₁ as₁ s₁ a t₁ x₁ I₁ ra => by
    show wpAny _ _ (do standAt tpos; unpack a [(false, PySem.assign (.Name x px) c.env), (false, PySem.assign (.Name y py) c.env), (false, PySem.assign (.Name z pz) c.env)]) _ _ _
    refine wpAny_bind (wpAny_standAt ?_)
    unfold unpack
    refine wpAny_bind (wpAny_holding (unpack_tuple O I₁ hi ra rfl fun s₂ xs I₂ rs => ?_))
    cases rs with
    | cons r1 rs =>
      cases rs with
      | cons r2 rs =>
        cases rs with
        | cons r3 rs =>
          cases rs
          show wpAny _ _ (do holding _ (PySem.assign (.Name x px) c.env _); (do holding _ (PySem.assign (.Name y py) c.env _); (do holding _ (PySem.assign (.Name z pz) c.env _); pure ()))) _ _ _
          refine wpAny_bind (wpAny_holding (assign_Name (I₂.store O r1 hx fun s₃ I₃ => ?_)))
          refine wpAny_bind (wpAny_holding (assign_Name (I₃.store O r2 hy fun s₄ I₄ => ?_)))
          refine wpAny_bind (wpAny_holding (assign_Name (I₄.store O r3 hz fun s₅ I₅ => ?_)))
          exact wpAny_pure (K g₁ as₁ s₅ t₁ x₁ I₅)) hs hw
end
end Mine

/-! F4 -/
namespace Mine
section
variable {c : Cx} {ρ ρ' : Loc} {σ σ₁ σ₂ σ₃ σ₄ : List Cell} {o : Res}

/-- one object of the ledger has changed -/
theorem Inv.turn {g : Heap} {as : List Nat} {s : Shared} {i a : Nat} {cl : Cell} {ob : Obj} {h' : Heap} {k : Nat} (I : Inv c g as ρ σ s) (ha : as[i]? = some a) (hi : c.k ≤ i) (hs : ∀ b o, b ≠ a → s.heap.get? b = some o → h'.get? b = some o) (ho : h'.get? a = some ob) (hc : CellRep as cl ob) :
    Inv c g as ρ (σ.set i cl) { s with heap := h', toks := k } := by
  obtain ⟨B, D, sim, nd, off, m, led, F, N, e, l, t⟩ := I
  have hil : i < led.length := by
    rw [← e] at ha
    have := List.getElem?_eq_some_iff.mp ha
    obtain ⟨h, _⟩ := this
    simpa using h
  have hp : led[i] ∈ led := List.getElem_mem hil
  have hpa : (led[i]).1 = a := by
    rw [← e, List.getElem?_map, List.getElem?_eq_getElem hil] at ha
    simpa using ha
  have hna := N _ (List.mem_append_right c.fz hp)
  rw [hpa] at hna
  have gn : ∀ b o, g.get? b = some o → b ≠ a := fun b o q z => by rw [z, hna.2.2] at q; cases q
  refine ⟨B, D, by rw [sim], nd, off, m, led.set i (a, ob), ⟨F.ns.at' fun o q => hs _ o (fun z => hna.2.1 z.symm) q, fun b o q => hs b o (gn b o q) (F.keep b o q), F.above⟩, ?_, ?_, l, t.set hc⟩
  · intro p hp
    rcases List.mem_append.mp hp with hp | hp
    · have h1 := N p (List.mem_append_left _ hp)
      exact ⟨hs _ _ (off i a hi ha p hp) h1.1, h1.2⟩
    · rcases List.mem_or_eq_of_mem_set hp with hp' | rfl
      · by_cases hq : p.1 = a
        · obtain ⟨j, hj, rfl⟩ := List.mem_iff_getElem.mp hp
          rw [List.length_set] at hj
          rw [List.getElem_set] at hq ⊢
          by_cases hij : i = j
          · rw [if_pos hij]
            exact ⟨ho, hna.2⟩
          · rw [if_neg hij] at hq ⊢
            exfalso
            have h1 : as[j]? = some a := by rw [← e, List.getElem?_map, List.getElem?_eq_getElem hj]; simp [hq]
            have h2 := (List.getElem?_inj (i := i) (j := j) (by rw [← e]; simpa using hil) nd).mp (by rw [ha, h1])
            exact hij h2
        · have h1 := N p (List.mem_append_right _ hp')
          exact ⟨hs _ _ hq h1.1, h1.2⟩
      · exact ⟨ho, hna.2⟩
  · rw [List.map_set]
    apply List.ext_getElem?
    intro j
    rw [List.getElem?_set]
    by_cases hij : i = j
    · subst hij
      rw [if_pos rfl]
      have : i < (led.map (·.1)).length := by simpa using hil
      rw [if_pos this, ha]
    · rw [if_neg hij, e]

/-! ### what is made and no longer asked is let go -/
theorem Inv.cut {g : Heap} {as : List Nat} {tl : List Cell} {s : Shared} (I : Inv c g as ρ (σ ++ tl) s) (hρ : ρ.all (fun p => p.2.low σ.length) = true) (hσ : σ.all (Cell.low σ.length) = true) :
    ∃ as' r, as = as' ++ r ∧ as'.length = σ.length ∧ Inv c g as' ρ σ s := by
  obtain ⟨B, D, sim, nd, off, m, led, F, N, e, l, t⟩ := I
  obtain ⟨l₁, l₂, rfl, t₁⟩ := t.take
  rw [List.map_append] at e
  have hlen : (l₁.map (·.1)).length = σ.length := by rw [List.length_map, t₁.length]
  refine ⟨l₁.map (·.1), l₂.map (·.1), e.symm, hlen, B, D, sim, ?_, ?_, m, l₁, F, fun p hp => N p ?_, rfl, ?_, ?_⟩
  · rw [← e] at nd
    exact (List.nodup_append.mp nd).1
  · intro i a hk ha
    refine off i a hk ?_
    rw [← e]
    exact (Ext.at ⟨_, rfl⟩ ha)
  · rcases List.mem_append.mp hp with hp | hp
    · exact List.mem_append_left _ hp
    · exact List.mem_append_right _ (List.mem_append_left _ hp)
  · intro x v hx
    obtain ⟨val, a, b⟩ := l x v hx
    rw [← e] at b
    refine ⟨val, a, b.cut ?_⟩
    rw [hlen]
    have : (x, v) ∈ ρ := by
      clear l hρ e
      induction ρ with
      | nil => simp at hx
      | cons q r ih =>
        obtain ⟨y, u⟩ := q
        rw [List.lookup_cons] at hx
        by_cases h : x = y
        · subst h; simp at hx; subst hx; exact .head _
        · have : (x == y) = false := by simpa using h
          rw [this] at hx
          exact .tail _ (ih hx)
    exact List.all_eq_true.mp hρ _ this
  · have : ∀ {τ : List Cell} {ll : Led}, Sto as τ ll → τ.all (Cell.low σ.length) = true → Sto (l₁.map (·.1)) τ ll := by
      intro τ ll h
      induction h with
      | nil => exact fun _ => .nil
      | cons a _ ih =>
        intro hq
        simp only [List.all_cons, Bool.and_eq_true] at hq
        rw [← e] at a
        exact .cons (a.cut (by rw [hlen]; exact hq.1)) (ih hq.2)
    exact this t₁ hσ
theorem Inv.len {g : Heap} {as : List Nat} {s : Shared} (I : Inv c g as ρ σ s) : as.length = σ.length := by
  obtain ⟨B, D, sim, nd, off, m, led, F, N, e, l, t⟩ := I
  rw [← e, List.length_map, t.length]
theorem Ex1.drop {st : Stmt} {tl : List Cell} (h : Ex1 c ρ σ st (.next ρ' (σ₁ ++ tl))) (hl : σ.length ≤ σ₁.length) (hρ : ρ'.all (fun p => p.2.low σ₁.length) = true) (hσ : σ₁.all (Cell.low σ₁.length) = true) : Ex1 c ρ σ st (.next ρ' σ₁) :=
  fun g as s Q E I K => h g as s Q E I fun g' as' s' t x I' => by
    obtain ⟨as₂, r, rfl, hlen, J⟩ := I'.cut hρ hσ
    refine K g' as₂ s' t ?_ J
    obtain ⟨u, hu⟩ := x
    refine ⟨as₂.drop as.length, ?_⟩
    have h1 : as = as₂.take as.length := by
      have := congrArg (List.take as.length) hu
      rw [List.take_append_of_le_length (by rw [hlen, I.len]; exact hl)] at this
      simpa using this.symm
    rw [h1, List.length_take]
    have : min as.length as₂.length = as.length := by rw [hlen, I.len]; exact Nat.min_eq_left hl
    rw [this]
    simp

/-! ### iterators -/
def Itr (c : Cx) (σ : List Cell) (v : V) (j : Nat) (σ' : List Cell) : Prop :=
  ∀ ρ g as s x (Q : Value → Shared → Prop) E, Inv c g as ρ σ s → Rep as v x → (∀ as' s' y, Ext as as' → Inv c g as' ρ σ' s' → Rep as' (.ref j) y → Q y s') → wpAny (model PR c.w) c.A (pyIter x) Q E s
def Nx (c : Cx) (σ : List Cell) (j : Nat) (v : V) (σ' : List Cell) : Prop :=
  ∀ ρ g as s x (Q : Option Value → Shared → Prop) E, Inv c g as ρ σ s → Rep as (.ref j) x → (∀ s' y, Inv c g as ρ σ' s' → Rep as v y → Q (some y) s') → wpAny (model PR c.w) c.A (pyNext x) Q E s
/-- the iterator is the last cell; it is gone at its end -/
def NxEnd (c : Cx) (τ : List Cell) (cl : Cell) : Prop :=
  ∀ ρ g as s x (Q : Option Value → Shared → Prop) E, Inv c g as ρ (τ ++ [cl]) s → Rep as (.ref τ.length) x → ρ.all (fun p => p.2.low τ.length) = true → τ.all (Cell.low τ.length) = true → (∀ as' r s', as = as' ++ r → Inv c g as' ρ τ s' → Q none s') →
    wpAny (model PR c.w) c.A (pyNext x) Q E s

theorem Itr.bytes {b : List UInt8} : Itr c σ (.bytes b) σ.length (σ ++ [.itB b 0]) := fun ρ g as s x Q E I r k => by
  cases r with
  | bytes _ t =>
    refine KBw.pyIter_bytes ?_
    obtain ⟨J, q⟩ := I.alloc (ob := { cls := .type "bytes_iterator", data := .fields #[.bytes b.toArray t, .int 0 0] }) (.itB b 0 t _ rfl rfl) rfl
    exact k _ _ _ .one J (.ref _ _ q)
theorem Nx.bytes {j i : Nat} {b : List UInt8} {ch : UInt8} (h : σ[j]? = some (.itB b i)) (hk : c.k ≤ j) (hb : b[i]? = some ch) : Nx c σ j (.int ch.toNat) (σ.set j (.itB b (i + 1))) := fun ρ g as s x Q E I r k => by
  obtain ⟨a, ob, rfl, ho, hc⟩ := I.cell h r
  cases r with
  | ref _ _ ha =>
  cases hc with
  | itB _ _ t _ h1 h2 =>
    refine KBw.next_item (b := b.toArray) (t := t) (i := i) ⟨ob, ho, h1, h2⟩ (by simpa using hb) fun h' hit hs => ?_
    obtain ⟨ob', ho', h1', h2'⟩ := hit
    exact k _ _ (I.turn ha hk (fun b o hb e => (hs.2 b hb).trans e) ho' (.itB _ _ t _ h1' h2')) (.int _ _)

/-- all but one object has stayed, and that one is no longer asked -/
theorem Inv.lose {g : Heap} {as : List Nat} {s : Shared} {τ : List Cell} {cl : Cell} {a : Nat} {h' : Heap} {k : Nat} (I : Inv c g as ρ (τ ++ [cl]) s) (ha : as[τ.length]? = some a) (hk : c.k ≤ τ.length) (hρ : ρ.all (fun p => p.2.low τ.length) = true) (hσ : τ.all (Cell.low τ.length) = true)
    (hs : ∀ b o, b ≠ a → s.heap.get? b = some o → h'.get? b = some o) : ∃ as' r, as = as' ++ r ∧ Inv c g as' ρ τ { s with heap := h', toks := k } := by
  have I₀ := I
  obtain ⟨as', r, rfl, hlen, J⟩ := I.cut hρ hσ
  refine ⟨as', r, rfl, ?_⟩
  have nd := I₀.nd
  have off := I₀.off _ _ hk ha
  have har : a ∈ r := by
    rw [List.getElem?_append_right (by rw [hlen]; exact Nat.le_refl _)] at ha
    exact List.mem_of_getElem? ha
  have hna : a ∉ as' := fun q => (List.nodup_append.mp nd).2.2 a q a har rfl
  obtain ⟨_, _, _, _, _, m₀, led₀, F₀, N₀, e₀, l₀, t₀⟩ := I₀
  have hx : ∃ o, s.heap.get? a = some o ∧ a ≠ c.L ∧ g.get? a = none := by
    have : a ∈ led₀.map (·.1) := by rw [e₀]; exact List.mem_append_right _ har
    obtain ⟨p, hp, rfl⟩ := List.mem_map.mp this
    exact ⟨_, N₀ p (List.mem_append_right _ hp)⟩
  obtain ⟨oa, hoa, haL, hag⟩ := hx
  obtain ⟨B, D, sim, nd', off', m, led, F, N, e, l, t⟩ := J
  refine ⟨B, D, by rw [sim], nd', off', m, led, ⟨F.ns.at' fun o q => hs _ o (fun z => haL z.symm) q, fun b o q => hs b o (fun z => by rw [z, hag] at q; cases q) (F.keep b o q), F.above⟩, ?_, e, l, t⟩
  intro p hp
  refine ⟨hs _ _ ?_ (N p hp).1, (N p hp).2⟩
  intro z
  rcases List.mem_append.mp hp with hp | hp
  · exact off p hp z
  · apply hna
    rw [← z, ← e]
    exact List.mem_map_of_mem hp

theorem NxEnd.bytes {i : Nat} {b : List UInt8} (O : c.Ok) (hk : c.k ≤ σ.length) (hb : b.length ≤ i) : NxEnd c σ (.itB b i) := fun ρ g as s x Q E I r hρ hσ k => by
  obtain ⟨a, ob, rfl, ho, hc⟩ := I.cell (cl := .itB b i) (by simp) r
  cases r with
  | ref _ _ ha =>
  cases hc with
  | itB _ _ t _ h1 h2 =>
    refine KBw.next_end (b := b.toArray) (t := t) (i := i) O.hh ⟨ob, ho, h1, h2⟩ (by simpa using hb) fun h' he => ?_
    obtain ⟨as', r, e, J⟩ := I.lose (h' := h') (k := s.toks) ha hk hρ hσ he
    exact k _ _ _ e J

theorem Itr.list {i : Nat} {vs : List V} (h : σ[i]? = some (.list vs)) : Itr c σ (.ref i) σ.length (σ ++ [.itL i 0]) := fun ρ g as s x Q E I r k => by
  obtain ⟨a, ob, rfl, ho, hc⟩ := I.cell h r
  cases r with
  | ref _ _ ha =>
  cases hc with
  | list n rs =>
    refine wpAny_pyIter_list ⟨_, ho, rfl, _, rfl⟩ ?_
    obtain ⟨J, q⟩ := I.alloc (ob := { cls := .type "list_iterator", data := .fields #[.ref a, .int 0 0] }) (.itL i 0 a _ ha rfl rfl) rfl
    exact k _ _ _ .one J (.ref _ _ q)
theorem Nx.list {i j p : Nat} {vs : List V} {v : V} (h : σ[j]? = some (.itL i p)) (hi : σ[i]? = some (.list vs)) (hk : c.k ≤ j) (hv : vs[p]? = some v) : Nx c σ j v (σ.set j (.itL i (p + 1))) := fun ρ g as s x Q E I r k => by
  obtain ⟨a, ob, rfl, ho, hc⟩ := I.cell h r
  cases r with
  | ref _ _ ha =>
  cases hc with
  | itL _ _ l _ hl h1 h2 =>
    obtain ⟨l', ol, e, hol, hcl⟩ := I.cell hi (.ref _ _ hl)
    cases e
    cases hcl with
    | list n rs =>
      obtain ⟨y, hy, ry⟩ := rs.get hv
      refine wpAny_pyNext_list_item (l := l) (i := p) ⟨ob, ho, h1, h2⟩ ⟨_, hol, rfl, _, rfl⟩ (x := y) (by simpa using hy) fun h' hit hs => ?_
      obtain ⟨ob', ho', h1', h2'⟩ := hit
      have J := I.turn (k := s.toks) ha hk (fun b o hb e => (hs.2 b hb).trans e) ho' (.itL _ _ l _ hl h1' h2')
      exact k _ _ J ry
theorem NxEnd.list {i p : Nat} {vs : List V} (O : c.Ok) (hi : σ[i]? = some (.list vs)) (hk : c.k ≤ σ.length) (hv : vs.length ≤ p) : NxEnd c σ (.itL i p) := fun ρ g as s x Q E I r hρ hσ k => by
  obtain ⟨a, ob, rfl, ho, hc⟩ := I.cell (cl := .itL i p) (by simp) r
  cases r with
  | ref _ _ ha =>
  cases hc with
  | itL _ _ l _ hl h1 h2 =>
    obtain ⟨l', ol, e, hol, hcl⟩ := I.cell (i := i) (cl := .list vs) (by
      rw [List.getElem?_append_left]
      · exact hi
      · rcases Nat.lt_or_ge i σ.length with h | h
        · exact h
        · rw [List.getElem?_eq_none h] at hi; cases hi) (.ref _ _ hl)
    cases e
    cases hcl with
    | list n rs =>
      rename_i xs
      refine wpAny_pyNext_list_end (l := l) (i := p) (items := xs.toArray) O.hh ⟨ob, ho, h1, h2⟩ ⟨_, hol, rfl, _, rfl⟩ (by simpa [rs.length] using hv) fun h' he => ?_
      obtain ⟨as', r, e, J⟩ := I.lose (h' := h') (k := s.toks) ha hk hρ hσ he
      exact k _ _ _ e J

theorem Itr.tuple {i : Nat} {vs : List V} (h : σ[i]? = some (.tuple vs)) : Itr c σ (.ref i) σ.length (σ ++ [.itT i 0]) := fun ρ g as s x Q E I r k => by
  obtain ⟨a, ob, rfl, ho, hc⟩ := I.cell h r
  cases r with
  | ref _ _ ha =>
  cases hc with
  | tuple rs =>
    refine wpAny_pyIter_tuple ⟨_, ho, rfl, _, rfl⟩ ?_
    obtain ⟨J, q⟩ := I.alloc (ob := { cls := .type "tuple_iterator", data := .fields #[.ref a, .int 0 0] }) (.itT i 0 a _ ha rfl rfl) rfl
    exact k _ _ _ .one J (.ref _ _ q)
theorem Nx.tuple {i j p : Nat} {vs : List V} {v : V} (h : σ[j]? = some (.itT i p)) (hi : σ[i]? = some (.tuple vs)) (hk : c.k ≤ j) (hv : vs[p]? = some v) : Nx c σ j v (σ.set j (.itT i (p + 1))) := fun ρ g as s x Q E I r k => by
  obtain ⟨a, ob, rfl, ho, hc⟩ := I.cell h r
  cases r with
  | ref _ _ ha =>
  cases hc with
  | itT _ _ l _ hl h1 h2 =>
    obtain ⟨l', ol, e, hol, hcl⟩ := I.cell hi (.ref _ _ hl)
    cases e
    cases hcl with
    | tuple rs =>
      obtain ⟨y, hy, ry⟩ := rs.get hv
      refine wpAny_pyNext_tuple_item (t := l) (i := p) ⟨ob, ho, h1, h2⟩ ⟨_, hol, rfl, _, rfl⟩ (x := y) (by simpa using hy) fun h' hit hs => ?_
      obtain ⟨ob', ho', h1', h2'⟩ := hit
      have J := I.turn (k := s.toks) ha hk (fun b o hb e => (hs.2 b hb).trans e) ho' (.itT _ _ l _ hl h1' h2')
      exact k _ _ J ry
theorem NxEnd.tuple {i p : Nat} {vs : List V} (O : c.Ok) (hi : σ[i]? = some (.tuple vs)) (hk : c.k ≤ σ.length) (hv : vs.length ≤ p) : NxEnd c σ (.itT i p) := fun ρ g as s x Q E I r hρ hσ k => by
  obtain ⟨a, ob, rfl, ho, hc⟩ := I.cell (cl := .itT i p) (by simp) r
  cases r with
  | ref _ _ ha =>
  cases hc with
  | itT _ _ l _ hl h1 h2 =>
    obtain ⟨l', ol, e, hol, hcl⟩ := I.cell (i := i) (cl := .tuple vs) (by
      rw [List.getElem?_append_left]
      · exact hi
      · rcases Nat.lt_or_ge i σ.length with h | h
        · exact h
        · rw [List.getElem?_eq_none h] at hi; cases hi) (.ref _ _ hl)
    cases e
    cases hcl with
    | tuple rs =>
      rename_i xs
      refine wpAny_pyNext_tuple_end (t := l) (i := p) (items := xs.toArray) O.hh ⟨ob, ho, h1, h2⟩ ⟨_, hol, rfl, _, rfl⟩ (by simpa [rs.length] using hv) fun h' he => ?_
      obtain ⟨as', r, e, J⟩ := I.lose (h' := h') (k := s.toks) ha hk hρ hσ he
      exact k _ _ _ e J

theorem Itr.range {i : Nat} {x y z : Int} (h : σ[i]? = some (.rng x y z)) (hs : Builtin.Range.small x y z = true) : Itr c σ (.ref i) σ.length (σ ++ [.itR x (Builtin.Range.rangeSize x y z) z]) := fun ρ g as s v Q E I r k => by
  obtain ⟨a, ob, rfl, ho, hc⟩ := I.cell h r
  cases hc with
  | rng _ _ _ t u w =>
    refine wpAny_pyIter_range (a := x) (b := y) (c := z) (t := t) (u := u) (v := w) ho hs ?_
    obtain ⟨J, q⟩ := I.alloc (.itR x (Builtin.Range.rangeSize x y z) z) rfl
    exact k _ _ _ .one J (.ref _ _ q)
theorem Nx.range {j : Nat} {x l st : Int} (h : σ[j]? = some (.itR x l st)) (hk : c.k ≤ j) (hl : 0 < l) : Nx c σ j (.int x) (σ.set j (.itR (x + st) (l - 1) st)) := fun ρ g as s v Q E I r k => by
  obtain ⟨a, ob, rfl, ho, hc⟩ := I.cell h r
  cases r with
  | ref _ _ ha =>
  cases hc
  refine wpAny_pyNext_range_item (x := x) (left := l) (step := st) ho hl fun h' hit hs => ?_
  exact k _ _ (I.turn ha hk (fun b o hb e => (hs.2 b hb).trans e) hit (.itR _ _ _)) (.int _ _)
theorem NxEnd.range {x l st : Int} (O : c.Ok) (hk : c.k ≤ σ.length) (hl : l ≤ 0) : NxEnd c σ (.itR x l st) := fun ρ g as s v Q E I r hρ hσ k => by
  obtain ⟨a, ob, rfl, ho, hc⟩ := I.cell (cl := .itR x l st) (by simp) r
  cases r with
  | ref _ _ ha =>
  cases hc
  refine wpAny_pyNext_range_end (x := x) (left := l) (step := st) O.hh ho hl fun h' he => ?_
  obtain ⟨as', r, e, J⟩ := I.lose (h' := h') (k := s.toks) ha hk hρ hσ he
  exact k _ _ _ e J
end
end Mine

/-! F5 -/
namespace Mine
section
variable {c : Cx} {ρ ρ' : Loc} {σ σ₁ σ₂ σ₃ σ₄ : List Cell} {o : Res}

/-! ### loops -/
theorem Ex1.while_ {test : PySem.Expr} {body : List Stmt} {pos : Pos} {σ' : List Cell} (n : Nat) (R : Nat → Loc) (S : Nat → List Cell) (h0 : R 0 = ρ) (h1 : S 0 = σ)
    (go : ∀ i, i < n → ∃ σt, Tst c (R i) (S i) test true σt ∧ Ex c (R i) σt body (.next (R (i + 1)) (S (i + 1)))) (fin : Tst c (R n) (S n) test false σ') :
    Ex1 c ρ σ (.While test body [] pos) (.next (R n) σ') := by
  subst h0 h1
  intro g as s Q E I K
  refine wpAny_While (codeAny_whileLoop (fun k s' => ∃ i g' as', i ≤ n ∧ k = n - i ∧ Tn c g g' ∧ Ext as as' ∧ Inv c g' as' (R i) (S i) s') ?_ n ⟨0, g, as, Nat.zero_le _, rfl, .refl, .refl, I⟩)
  rintro k s' ⟨i, g', as', hi, rfl, t, x, I'⟩
  by_cases hlt : i < n
  · obtain ⟨σt, ht, hb⟩ := go i hlt
    refine ht g' as' s' _ _ I' fun g₁ as₁ s₁ t₁ x₁ I₁ => ?_
    exact hb g₁ as₁ s₁ _ _ I₁ fun g₂ as₂ s₂ t₂ x₂ I₂ => ⟨n - (i + 1), by omega, i + 1, g₂, as₂, hlt, rfl, (t.trans t₁).trans t₂, (x.trans x₁).trans x₂, I₂⟩
  · have : i = n := by omega
    subst this
    refine fin g' as' s' _ _ I' fun g₁ as₁ s₁ t₁ x₁ I₁ => ?_
    exact wpAny_execs_nil (K g₁ as₁ s₁ (t.trans t₁) (x.trans x₁) I₁)

theorem ext_of_cut {as as₁ as' r : List Nat} (h : Ext as as₁) (e : as₁ = as' ++ r) (hl : as.length ≤ as'.length) : Ext as as' := by
  obtain ⟨u, rfl⟩ := h
  refine ⟨as'.drop as.length, ?_⟩
  have h1 : as = as'.take as.length := by
    have := congrArg (List.take as.length) e
    rw [List.take_append_of_le_length hl] at this
    simpa using this
  rw [h1, List.length_take]
  have : min as.length as'.length = as.length := Nat.min_eq_left hl
  rw [this]
  simp

/-- a for whose turns all come to their end; the iterator is the last cell in every turn -/
theorem Ex1.for_ {y : PySem.Str} {px pos : Pos} {iter : PySem.Expr} {body : List Stmt} {v : V} (n : Nat) (R : Nat → Loc) (B : Nat → List Cell) (it : Nat → Cell) (vals : Nat → V) (O : c.Ok) (hl : c.scope.names.lookup y = some .local)
    (h0 : R 0 = ρ) (he : Ev c ρ σ iter (.val v (B 0))) (hi : Itr c (B 0) v (B 0).length (B 0 ++ [it 0])) (hlen : ∀ i, i ≤ n → (B i).length = (B 0).length) (hle : σ.length ≤ (B 0).length)
    (go : ∀ i, i < n → Nx c (B i ++ [it i]) (B 0).length (vals i) (B i ++ [it (i + 1)]) ∧ Ex c (setL y (vals i) (R i)) (B i ++ [it (i + 1)]) body (.next (R (i + 1)) (B (i + 1) ++ [it (i + 1)])))
    (fin : NxEnd c (B n) (it n)) (hρ : (R n).all (fun p => p.2.low (B 0).length) = true) (hσ : (B n).all (Cell.low (B 0).length) = true)
    (hs : ∀ x, foldedSetIterable iter c.env x = pure x := by intro _; rfl) :
    Ex1 c ρ σ (.For (.Name y px) iter body [] pos) (.next (R n) (B n)) := by
  subst h0
  intro g as s Q E I K
  refine wpAny_For (he.val I fun g₁ as₁ s₁ a t₁ x₁ I₁ ra => hi _ g₁ as₁ s₁ a _ E I₁ ra fun as₂ s₂ j x₂ I₂ rj => ?_) hs
  refine codeAny_forLoop (fun k s' => ∃ i g' as', i ≤ n ∧ k = n - i ∧ Tn c g g' ∧ Ext as₂ as' ∧ Inv c g' as' (R i) (B i ++ [it i]) s') ?_ n ⟨0, g₁, as₂, Nat.zero_le _, rfl, t₁, .refl, I₂⟩
  rintro k s' ⟨i, g', as', hin, rfl, t, x, I'⟩
  by_cases hlt : i < n
  · obtain ⟨hnx, hb⟩ := go i hlt
    refine hnx _ g' as' s' j _ _ I' (rj.ext x) fun s₃ z I₃ rz => ?_
    refine wpAny_assign_Name (I₃.store O rz hl fun s₄ I₄ => ?_)
    exact hb g' as' s₄ _ _ I₄ fun g₅ as₅ s₅ t₅ x₅ I₅ => ⟨n - (i + 1), by omega, i + 1, g₅, as₅, hlt, rfl, t.trans t₅, x.trans x₅, I₅⟩
  · have : i = n := by omega
    subst this
    have hln := hlen i (Nat.le_refl _)
    refine fin _ g' as' s' j _ _ I' (by rw [hln]; exact rj.ext x) (by rw [hln]; exact hρ) (by rw [hln]; exact hσ) fun as₃ r s₃ e I₃ => ?_
    exact wpAny_execs_nil (K g' as₃ s₃ t (ext_of_cut ((x₁.trans x₂).trans x) e (by rw [I₃.len, hln, I.len]; exact hle)) I₃)
/-- a for that is left by a return in its turn n -/
theorem Ex1.forRet {y : PySem.Str} {px pos : Pos} {iter : PySem.Expr} {body : List Stmt} {v u : V} (n : Nat) (R : Nat → Loc) (B : Nat → List Cell) (it : Nat → Cell) (vals : Nat → V) (O : c.Ok) (hl : c.scope.names.lookup y = some .local)
    (h0 : R 0 = ρ) (he : Ev c ρ σ iter (.val v (B 0))) (hi : Itr c (B 0) v (B 0).length (B 0 ++ [it 0]))
    (go : ∀ i, i < n → Nx c (B i ++ [it i]) (B 0).length (vals i) (B i ++ [it (i + 1)]) ∧ Ex c (setL y (vals i) (R i)) (B i ++ [it (i + 1)]) body (.next (R (i + 1)) (B (i + 1) ++ [it (i + 1)])))
    (fin : Nx c (B n ++ [it n]) (B 0).length (vals n) (B n ++ [it (n + 1)]) ∧ Ex c (setL y (vals n) (R n)) (B n ++ [it (n + 1)]) body (.ret u σ₂))
    (hs : ∀ x, foldedSetIterable iter c.env x = pure x := by intro _; rfl) :
    Ex1 c ρ σ (.For (.Name y px) iter body [] pos) (.ret u σ₂) := by
  subst h0
  intro g as s Q E I K
  refine wpAny_For (he.val I fun g₁ as₁ s₁ a t₁ x₁ I₁ ra => hi _ g₁ as₁ s₁ a _ E I₁ ra fun as₂ s₂ j x₂ I₂ rj => ?_) hs
  refine codeAny_forLoop (fun k s' => ∃ i g' as', i ≤ n ∧ k = n - i ∧ Tn c g g' ∧ Ext as₂ as' ∧ Inv c g' as' (R i) (B i ++ [it i]) s') ?_ n ⟨0, g₁, as₂, Nat.zero_le _, rfl, t₁, .refl, I₂⟩
  rintro k s' ⟨i, g', as', hin, rfl, t, x, I'⟩
  by_cases hlt : i < n
  · obtain ⟨hnx, hb⟩ := go i hlt
    refine hnx _ g' as' s' j _ _ I' (rj.ext x) fun s₃ z I₃ rz => ?_
    refine wpAny_assign_Name (I₃.store O rz hl fun s₄ I₄ => ?_)
    exact hb g' as' s₄ _ _ I₄ fun g₅ as₅ s₅ t₅ x₅ I₅ => ⟨n - (i + 1), by omega, i + 1, g₅, as₅, hlt, rfl, t.trans t₅, x.trans x₅, I₅⟩
  · have : i = n := by omega
    subst this
    obtain ⟨hnx, hb⟩ := fin
    refine hnx _ g' as' s' j _ _ I' (rj.ext x) fun s₃ z I₃ rz => ?_
    refine wpAny_assign_Name (I₃.store O rz hl fun s₄ I₄ => ?_)
    exact hb g' as' s₄ _ _ I₄ fun g₅ as₅ ρ₅ s₅ y' t₅ x₅ I₅ ry => K g₅ as₅ ρ₅ s₅ y' (t.trans t₅) (((x₁.trans x₂).trans x).trans x₅) I₅ ry
end
end Mine

/-! F6 -/
namespace Mine
section
variable {c : Cx} {ρ ρ' : Loc} {σ σ₁ σ₂ σ₃ σ₄ : List Cell} {o : Res}

/-! ### raise -/
theorem Ex1.raise {x : PySem.Str} {np cpos pos : Pos} {e : PySem.Expr} {v : V} {C : Nat} {bmB : List Value} {Bn newId inN B nid initId : String} {bmN : List Value} (O : c.Ok) (Fn : ExcBaseFacts Bn newId inN bmN) (hBn : bmB.contains (.type Bn) = true) (FB : ExcBaseFacts B nid initId bmB)
    (ex : nsIn (hd.heap_39 c.w.params) mainGlobals x = some (some (.ref C))) (q : excIn (hd.heap_39 c.w.params) C bmB newId = true) (hx : c.scope.names.lookup x = some .globalImplicit) (he : Ev c ρ σ e (.val v σ₁))
    (hd : (x == ("__debug__" : PySem.Str)) = false := by decide) (hs : starEach [e] c.env = [(false, eval e c.env)] := by rfl) : Ex1 c ρ σ (.Raise (some (.Call (.Name x np) [e] [] cpos)) none pos) (.exc true C σ₁) :=
  fun g as s Q E I K => by
    have OC := own_of_in O.XB (topRead_of O.TB) ex q
    obtain ⟨bm, N, nm, qn, bs, hdct, sn, sub, ab, col, dd, k0, k1, k2, k3, k5, mN, hC, hN, hni, TL⟩ := OC.obj
    refine wpAny_Raise_call_subU (C := C) (nm := nm) (q := qn) (N := N) (bs := bs) (bm := bm) (hdct := hdct) (sn := sn) (sub := sub) (ab := ab) (col := col) (dd := dd) (k0 := k0) (k1 := k1) (k2 := k2) (k3 := k3) (k5 := k5)
      Fn hBn FB (mN := mN) (TL.hasType FB.hasBase) O.hh (by rw [hs]; rfl) hni ?_
    refine (Ev.global (v := .fn C) O ex (.fn C) hx hd).val I fun g₁ as₁ s₁ a t₁ x₁ I₁ ra => ?_
    cases ra
    refine ⟨rfl, ?_⟩
    rw [hs]
    refine evalArgs_plain (spliced_cons (he.val I₁ fun g₂ as₂ s₂ b t₂ x₂ I₂ rb => spliced_nil ?_))
    obtain ⟨B, D, sim, nd, off, m, led, F, N, e', l, t⟩ := I₂
    have st : ∀ b o, c.base.get? b = some o → s₂.heap.get? b = some o := fun b o h => F.keep _ _ (B.stays _ _ h)
    refine ⟨rfl, by rw [sizeLine_eq]; show 1 ≤ 16777216; decide, st _ _ hC, hN.keeps st, TL.keeps st, fun h' e hm => ?_⟩
    exact K g₂ as₂ e _ (t₁.trans t₂) (x₁.trans x₂) ⟨B, D, by rw [sim], nd, off, led, m, e', t, .inl ⟨rfl, s₂.heap, [b], F, N, hm⟩⟩

/-! ### try -/
theorem Ex1.tryNext {body els : List Stmt} {h₀ : ExceptHandler} {hs : List ExceptHandler} {pos : Pos} {o : Out} (h : Ex c ρ σ body (.next ρ' σ₁)) (k : Ex c ρ' σ₁ els o) : Ex1 c ρ σ (.Try body (h₀ :: hs) els [] pos) o :=
  fun g as s Q E I K => wpAny_Try_except (h g as s _ _ I fun g₁ as₁ s₁ t₁ x₁ I₁ => k g₁ as₁ s₁ Q E I₁ (K.mono t₁ x₁))
theorem Ex1.tryRet {body els : List Stmt} {h₀ : ExceptHandler} {hs : List ExceptHandler} {pos : Pos} {v : V} (h : Ex c ρ σ body (.ret v σ₁)) : Ex1 c ρ σ (.Try body (h₀ :: hs) els [] pos) (.ret v σ₁) :=
  fun g as s Q E I K => wpAny_Try_except (h g as s _ _ I fun g₁ as₁ ρ₁ s₁ x t₁ x₁ I₁ r => K g₁ as₁ ρ₁ s₁ x t₁ x₁ I₁ r)
def constV : Const → V
  | .none => .none
  | .bool b => .bool b
  | .int i => .int i
  | .str x => .str x
  | .bytes b => .bytes b
  | _ => .none
/-- an exception that a callee has raised is caught by its class; the clause returns a constant -/
theorem Ex1.tryCaught {body els : List Stmt} {x : PySem.Str} {np hp rp cp pos : Pos} {k : Nat} {cst : Const} {hs : List ExceptHandler} {C : Nat} (O : c.Ok) (htn : c.tn = true) (h : Ex c ρ σ body (.exc false C σ₁))
    (ex : nsIn (hd.heap_39 c.w.params) mainGlobals x = some (some (.ref C))) (q : ktsIn (hd.heap_39 c.w.params) C "BaseException" = true) (hx : c.scope.names.lookup x = some .globalImplicit)
    (hcst : cst = .none ∨ ∃ b, cst = .bool b) (hd : (x == ("__debug__" : PySem.Str)) = false := by decide) :
    Ex1 c ρ σ (.Try body (.ExceptHandler (some (.Name x np)) none [.Return (some (.Constant cst k cp)) rp] hp :: hs) els [] pos) (.ret (constV cst) σ₁) :=
  fun g as s Q E I K => by
    refine wpAny_noRaise (wpAny_Try_except (h g as s _ _ I ?_))
    intro g₁ as₁ e s₁ t₁ x₁ esc
    obtain ⟨B, D, sim, nd, off, led, m, e', t, ⟨hf, _⟩ | ⟨_, G, tt, vs, F, R, U⟩⟩ := esc
    · cases hf
    refine caught_SO0 (g₀ := g₁) R F B U O.XB O.TB D KtsTurn.refl ex q (fun h' g' news₂ T' F' N₂ G' N' B' X' P' D' => ?_) O.hk hx hd (hE := PassesOwnAt.never)
    have J : ∀ k', Inv c g' as₁ [] σ₁ { s₁ with heap := h', toks := k' } := fun k' => ⟨B', D', by rw [sim], nd, off, m, led, F', N', e', (fun y v hv => by simp at hv), t⟩
    have J' : Inv c g' as₁ [] σ₁ { s₁ with heap := h' } := J s₁.toks
    have tt' : Tn c g g' := t₁.trans (.inr ⟨htn, T'⟩)
    refine wpAny_execs_cons (wpAny_Return_some ?_)
    rcases hcst with rfl | ⟨b, rfl⟩
    · exact wpAny_Constant_none (K g' as₁ [] _ _ tt' x₁ J' .none)
    · exact wpAny_Constant_bool (K g' as₁ [] _ _ tt' x₁ J' (.bool b))

/-! ### defs -/
inductive RepBinds (as : List Nat) : Loc → List (PySem.Str × Value) → Prop where
  | nil : RepBinds as [] []
  | cons {x : PySem.Str} {v : V} {y : Value} {ρ : Loc} {b : List (PySem.Str × Value)} : Rep as v y → RepBinds as ρ b → RepBinds as ((x, v) :: ρ) ((x, y) :: b)
theorem RepBinds.names {as : List Nat} {ρ : Loc} {b : List (PySem.Str × Value)} (h : RepBinds as ρ b) : b.map (·.1) = ρ.map (·.1) := by
  induction h with
  | nil => rfl
  | cons _ _ ih => simp [ih]
theorem RepBinds.mem {as : List Nat} {ρ : Loc} {b : List (PySem.Str × Value)} (h : RepBinds as ρ b) {x : PySem.Str} {v : V} (m : (x, v) ∈ ρ) : ∃ y, (x, y) ∈ b ∧ Rep as v y := by
  induction h with
  | nil => cases m
  | cons r _ ih =>
    rcases List.mem_cons.mp m with e | m
    · cases e
      exact ⟨_, .head _, r⟩
    · obtain ⟨y, h1, h2⟩ := ih m
      exact ⟨y, .tail _ h1, h2⟩
theorem mem_of_lookup {α : Type} {x : PySem.Str} {v : α} : ∀ {l : List (PySem.Str × α)}, l.lookup x = some v → (x, v) ∈ l
  | [], h => by simp at h
  | (y, u) :: r, h => by
    rw [List.lookup_cons] at h
    by_cases e : x = y
    · subst e; simp at h; subst h; exact .head _
    · have : (x == y) = false := by simpa using e
      rw [this] at h
      exact .tail _ (mem_of_lookup h)
theorem lookup_of_mem {α : Type} {x : PySem.Str} {v : α} : ∀ {l : List (PySem.Str × α)}, (l.map (·.1)).Nodup → (x, v) ∈ l → l.lookup x = some v
  | (y, u) :: r, nd, h => by
    rw [List.map_cons, List.nodup_cons] at nd
    rw [List.lookup_cons]
    rcases List.mem_cons.mp h with e | h
    · cases e
      simp
    · have hne : x ≠ y := fun e => nd.1 (by rw [← e]; exact List.mem_map_of_mem (f := (·.1)) h)
      have : (x == y) = false := by simpa using hne
      rw [this]
      exact lookup_of_mem nd.2 h
theorem RepBinds.locOk {as : List Nat} {ρ : Loc} {b : List (PySem.Str × Value)} (h : RepBinds as ρ b) (nd : (ρ.map (·.1)).Nodup) : LocOk as ρ (fun y => b.reverse.lookup y) := fun x v e => by
  obtain ⟨y, m, r⟩ := h.mem (mem_of_lookup e)
  refine ⟨y, lookup_of_mem ?_ (List.mem_reverse.mpr m), r⟩
  rw [List.map_reverse, h.names]
  exact List.pairwise_reverse.mpr (nd.imp Ne.symm)

def FunOk (a d : Nat) (tn : Bool) (args : List V) (names : List PySem.Str) (us : List V) (cells : List Cell) (o : Except Nat V) : Prop :=
  ∀ (c : Cx), c.Ok → d < c.d → (tn = true → c.tn = true) → ∀ ρ σ g as s xs ys Q E as₀ led₀, Inv c g as ρ σ s → RepAll as₀ args xs → RepAll [] us ys → Sto as₀ cells led₀ → led₀.map (·.1) = as₀ → as₀.Nodup → News g c.L s.heap led₀ →
    (∀ v, o = .ok v → ∀ g' s' x, Tn c g g' → Inv c g' as ρ σ s' → Rep [] v x → Q x s') → (∀ C, o = .error C → ECont c g as E false C σ) →
    wpAny (model PR c.w) c.A (PySem.call (.ref a) xs (names.zip ys)) Q E s

def outOf : Out → Option (Except Nat V)
  | .ret v _ => if v.low 0 then some (.ok v) else none
  | .exc _ C _ => some (.error C)
  | .next _ _ => none

theorem RaisedS.back {base G G' : Heap} {l : List Env} {e t : Nat} {cls : Value} {vs : List Value} {news news' : List (Nat × Obj)} {h : Heap} (R : RaisedS base G' l e cls t vs news' h) (T : G' = G ∨ KtsTurn (l.filterMap (·.frame)) G G') (hn : ∀ q ∈ news, q ∈ news') : RaisedS base G l e cls t vs news h := by
  obtain ⟨⟨B, hB, hBG, hl, hfl, hnew⟩, htup⟩ := R
  rcases T with rfl | T
  · exact ⟨⟨B, hB, hBG, fun q hq => hl q (hn q hq), hfl, hnew⟩, htup⟩
  · refine ⟨⟨B, hB, fun b o q nm => hBG b o (T.other b o q nm) nm, fun q hq => ⟨(hl q (hn q hq)).1, ?_, (hl q (hn q hq)).2.2⟩, hfl, hnew⟩, htup⟩
    cases z : G.get? q.1 with
    | none => rfl
    | some o =>
      obtain ⟨sl, hs⟩ := T.up z
      have := (hl q (hn q hq)).2.1
      rw [hs] at this
      cases this
theorem upTo_back {fs : List Nat} {G G' h : Heap} (T : G' = G ∨ KtsTurn fs G G') (U : G'.UpToSlots h) : G.UpToSlots h := by
  rcases T with rfl | T
  · exact U
  · intro b o e hd
    obtain ⟨sl, hs⟩ := T.up e
    obtain ⟨sl', h'⟩ := U _ _ hs hd
    exact ⟨sl', h'⟩

theorem FunOk.of {a d : Nat} {tn : Bool} {args : List V} {names : List PySem.Str} {us : List V} {cells : List Cell} {o : Except Nat V} {ρ₀ : Loc} {out : Out}
    {name qual : PySem.Str} {params : Arguments} {body : List Stmt} {scope : Scope} {dV kV doc pm cdv ct oc : Value} {an od : Option Addr} {osl : Array (Option Value)}
    (ho : ∀ P, (hd.heap_39 P).lookup a = some ⟨oc, od, .func (fnOf name qual params body scope dV kV doc pm an cdv ct), osl⟩) (hcd : ∀ P, codeIn (hd.heap_39 P) cdv qual = true)
    (hbind : ∀ (P : Params) (s : Shared) (as₀ : List Nat) (xs ys : List Value), (hd.heap_39 P).In s.heap → RepAll as₀ args xs → RepAll [] us ys → ∃ binds, BindsTo s (fnOf name qual params body scope dV kV doc pm an cdv ct) ⟨xs, names.zip ys⟩ binds ∧ RepBinds as₀ ρ₀ binds)
    (hloc : (ρ₀.all fun x => decide (scope.names.lookup x.1 = some .local)) = true) (hnd : (ρ₀.map (·.1)).Nodup)
    (hco : scope.isCoroutine = false) (hgen : scope.isGenerator = false) (hk : scope.kind = .function) (hcell : ∀ x ∈ scope.names, x.2 ≠ .cell) (hout : outOf out = some o)
    (hbody : ∀ c : Cx, c.Ok → c.scope = scope → c.d = d → c.tn = tn → c.k = cells.length → Ex c ρ₀ cells body out) : FunOk a d tn args names us cells o := by
  intro c O hd htn ρ σ g as s xs ys Q E as₀ led₀ I r1 r2 st e₀ nd₀ N₀ kv ke
  have X := I.X O
  have T := I.T O
  obtain ⟨B, D, sim, nd, off, m, led, F, N, e, l, t⟩ := I
  obtain ⟨binds, hb, rb⟩ := hbind c.w.params s as₀ xs ys (X.keeps F.keep) r1 r2
  have hlen₀ : as₀.length = cells.length := by rw [← e₀, List.length_map, st.length]
  have N₁ : News g c.L s.heap ((c.fz ++ led) ++ led₀) := fun p hp => (List.mem_append.mp hp).elim (N p) (N₀ p)
  have hr := O.hr
  have hu := O.hu
  refine wpAny_call (code_defS (news := (c.fz ++ led) ++ led₀) (g₀ := g) B F X N₁ T O.XB O.TB D KtsTurn.refl (Around.frames_deeper B.stack) (ho _) (hcd _) (by show c.A₀.depth + 1 < recursionLimit; omega) hb (fun y hy => ?_) (fun g' L' h₁ FG F' N' B' X' T' D' => ?_) O.hk hco hgen hk hcell)
  · have : y.1 ∈ ρ₀.map (·.1) := by rw [← rb.names]; exact List.mem_map_of_mem hy
    obtain ⟨z, hz, hzy⟩ := List.mem_map.mp this
    have := of_decide_eq_true (List.all_eq_true.mp hloc z hz)
    rw [← hzy]
    exact this
  let c' : Cx := { w := c.w, mean := c.mean, mg := c.mg, mb := c.mb, A₀ := c.A, base := c.base, outer := c.env :: c.outer, qual := qual, scope := scope, L := L', f := a, cd := cdv, s₀ := s, tn := tn, d := d, fz := c.fz ++ led, k := cells.length }
  have O' : c'.Ok := ⟨O.XB, O.TB, hk, O.hh, O.hg, by show c.A₀.depth + 1 + 1 + d < recursionLimit; omega, by show c.A₀.units + 3 + 100 * d + 100 < 9900; omega⟩
  have simT : ∀ s' : Shared, s' = { s with heap := s'.heap, toks := s'.toks } → s' = { c.s₀ with heap := s'.heap, toks := s'.toks } := fun s' h => by rw [h, sim]
  refine hbody c' O' rfl rfl rfl rfl g' as₀ _ _ _ ⟨B', D', rfl, nd₀, fun i a hi ha => ?_, _, led₀, F', N', e₀, rb.locOk hnd, st⟩ ?_
  · rw [List.getElem?_eq_none (by rw [hlen₀]; exact hi)] at ha
    cases ha
  have restr : ∀ {h : Heap} {L g' led'}, News g' L h (c'.fz ++ led') → News g' L h (c.fz ++ led) := fun N p hp => N p (List.mem_append_left _ hp)
  cases out with
  | next ρ σ => cases hout
  | ret v σ' =>
    intro g'' as'' ρ'' s' x tn' ext I'' rx
    have hv : v.low 0 = true := by
      cases h : v.low 0 with
      | true => rfl
      | false => simp [outOf, h] at hout
    have ho' : o = .ok v := by simp [outOf, hv] at hout; exact hout.symm
    have rx' : Rep [] v x := Rep.cut (as := []) (by simpa using rx) hv
    obtain ⟨B₂, D₂, sim₂, nd₂, off₂, m₂, led₂, F₂, N₂, e₂, l₂, t₂⟩ := I''
    rcases tn' with rfl | ⟨htt, T₂⟩
    · exact leaveS_l F₂ (restr N₂) fun F₃ N₃ => kv v ho' g s' x .refl ⟨B, D, simT s' sim₂, nd, off, m, led, F₃, N₃, e, l, t⟩ rx'
    · exact leaveS_r F₂ (restr N₂) T₂ fun g₃ T₃ F₃ N₃ B₃ X₃ P₃ D₃ => kv v ho' g₃ s' x (.inr ⟨htn htt, T₃⟩) ⟨B₃, D₃, simT s' sim₂, nd, off, m, led, F₃, N₃, e, l, t⟩ rx'
  | exc hb' C σ' =>
    have ho' : o = .error C := by simp [outOf] at hout; exact hout.symm
    intro g'' as'' ee s' tn' ext esc
    obtain ⟨B₂, D₂, sim₂, nd₂, off₂, led₂, m₂, e₂, t₂, h⟩ := esc
    have T₂ : g'' = g' ∨ KtsTurn ((c.env :: c.outer).filterMap (·.frame)) g' g'' := tn'.imp _root_.id (·.2)
    rcases h with ⟨_, h, vs, F₂, N₂, hm⟩ | ⟨_, G, tt, vs, F₂, R, U⟩
    · refine leave_raiseS B₂ hm F₂ N₂ (fun h' tt RS RK U' => ?_) hk
      refine ke C ho' g as ee _ .refl .refl ⟨B, D, ?_, nd, off, led, m, e, t, .inr ⟨rfl, g', tt, vs, FG, Mine.RaisedS.back RS T₂ (fun q hq => List.mem_append_left _ hq), upTo_back T₂ U'⟩⟩
      have := simT s' sim₂
      rw [this]
    · refine leave_onS B₂ F₂ R U (fun h' RS RK U' => ?_)
      refine ke C ho' g as ee _ .refl .refl ⟨B, D, ?_, nd, off, led, m, e, t, .inr ⟨rfl, g', tt, vs, FG, Mine.RaisedS.back RS T₂ (fun q hq => List.mem_append_left _ hq), upTo_back T₂ U'⟩⟩
      have := simT s' sim₂
      rw [this]

/-! ### a def is called -/
def resOf (o : Except Nat V) (σ : List Cell) : Res := match o with
  | .ok v => .val v σ
  | .error C => .exc false C σ
theorem Cl.fun0 {a d : Nat} {tn : Bool} {args us : List V} {names : List PySem.Str} {o : Except Nat V} (H : FunOk a d tn args names us [] o) (O : c.Ok) (hd : d < c.d) (htn : tn = true → c.tn = true) (ha : args.all (V.low 0) = true) (hu : us.all (V.low 0) = true) :
    Cl c σ (.ref a) args names us (resOf o σ) := fun ρ g as s xs ys I r1 r2 Q E K => by
  refine H c O hd htn ρ σ g as s xs ys Q E [] [] I (RepAll.cut (as := []) (by simpa using r1) ha) (RepAll.cut (as := []) (by simpa using r2) hu) .nil rfl .nil News.nil ?_ ?_
  · rintro v rfl g' s' x t I' r
    exact K g' as s' x t .refl I' (r.ext ⟨as, rfl⟩)
  · rintro C rfl
    exact K
/-- the argument that is an object: its cell goes along -/
def V.put (i : Nat) : V → V
  | .ref _ => .ref i
  | v => v
theorem rep_put {as : List Nat} {i a : Nat} {v : V} {x : Value} (ha : as[i]? = some a) (hv : v.low 1 = true) (r : Rep as (v.put i) x) : Rep [a] v x := by
  cases v with
  | ref j =>
    have : j = 0 := by simp [V.low] at hv; omega
    subst this
    cases r with
    | ref _ b hb =>
      rw [ha] at hb
      cases hb
      exact .ref _ _ rfl
  | _ => cases r; constructor <;> assumption
theorem repAll_put {as : List Nat} {i a : Nat} (ha : as[i]? = some a) : ∀ {vs : List V} {xs : List Value}, vs.all (V.low 1) = true → RepAll as (vs.map (V.put i)) xs → RepAll [a] vs xs
  | [], _, _, r => by cases r; exact .nil
  | v :: vs, _, h, r => by
    simp only [List.all_cons, Bool.and_eq_true] at h
    cases r with
    | cons r1 r2 => exact .cons (rep_put ha h.1 r1) (repAll_put ha h.2 r2)
theorem Cl.fun1 {a d i : Nat} {tn : Bool} {args args₀ us : List V} {names : List PySem.Str} {cl : Cell} {o : Except Nat V} (H : FunOk a d tn args₀ names us [cl] o) (O : c.Ok) (hd : d < c.d) (htn : tn = true → c.tn = true)
    (hi : σ[i]? = some cl) (hf : cl.low 0 = true) (he : args = args₀.map (V.put i)) (ha : args₀.all (V.low 1) = true) (hu : us.all (V.low 0) = true) :
    Cl c σ (.ref a) args names us (resOf o σ) := fun ρ g as s xs ys I r1 r2 Q E K => by
  have hlt : i < as.length := by
    rw [I.len]
    rcases Nat.lt_or_ge i σ.length with h | h
    · exact h
    · rw [List.getElem?_eq_none h] at hi; cases hi
  have hai : as[i]? = some as[i] := List.getElem?_eq_getElem hlt
  obtain ⟨a', ob, e', hob, hc⟩ := I.cell hi (.ref i as[i] hai)
  cases e'
  subst he
  have hN : ∃ led, News g c.L s.heap (c.fz ++ led) ∧ led.map (·.1) = as := by
    obtain ⟨_, _, _, _, _, m, led, F, N, e, l, t⟩ := I
    exact ⟨led, N, e⟩
  obtain ⟨led, N, el⟩ := hN
  have hmem : ∃ p ∈ led, p.1 = as[i] := by
    have : as[i] ∈ led.map (·.1) := by rw [el]; exact List.getElem_mem hlt
    obtain ⟨p, hp, hq⟩ := List.mem_map.mp this
    exact ⟨p, hp, hq⟩
  obtain ⟨p, hp, hq⟩ := hmem
  have hN := N p (List.mem_append_right _ hp)
  rw [hq] at hN
  refine H c O hd htn ρ σ g as s xs ys Q E [as[i]] [(as[i], ob)] I (repAll_put hai ha r1) (RepAll.cut (as := []) (by simpa using r2) hu) (.cons ((CellRep.cut (as := []) (by simpa using hc) hf).ext ⟨_, rfl⟩) .nil) rfl (by simp) ?_ ?_ ?_
  · intro p hp
    rw [List.mem_singleton.mp hp]
    exact ⟨hob, hN.2⟩
  · rintro v rfl g' s' x t I' r
    exact K g' as s' x t .refl I' (r.ext ⟨as, rfl⟩)
  · rintro C rfl
    exact K
end
end Mine

/-! B1 -/
namespace Mine
section
variable {c : Cx} {σ : List Cell}

/-! ### ints -/
theorem Op2.add {a b : Int} : Op2 c σ (.int a) (.int b) (binaryOp .Add) (.val (.int (a + b)) σ) := fun ρ g as s x y I r1 r2 Q E K => by
  cases r1; cases r2; exact PySem.P.add_int (K g as _ _ .refl .refl (I.tok _) (.int _ _))
theorem Op2.sub {a b : Int} : Op2 c σ (.int a) (.int b) (binaryOp .Sub) (.val (.int (a - b)) σ) := fun ρ g as s x y I r1 r2 Q E K => by
  cases r1; cases r2; exact PySem.P.sub_int (K g as _ _ .refl .refl (I.tok _) (.int _ _))
theorem Op2.isub {a b : Int} : Op2 c σ (.int a) (.int b) (inplaceOp .Sub) (.val (.int (a - b)) σ) := fun ρ g as s x y I r1 r2 Q E K => by
  cases r1; cases r2; exact PySem.P.isub_int (K g as _ _ .refl .refl (I.tok _) (.int _ _))
theorem Op2.mul {a b : Int} (h : IntMulOk a b) : Op2 c σ (.int a) (.int b) (binaryOp .Mult) (.val (.int (a * b)) σ) := fun ρ g as s x y I r1 r2 Q E K => by
  cases r1; cases r2; exact PySem.P.mul_int (K g as _ _ .refl .refl (I.tok _) (.int _ _)) h
theorem Op2.fdiv {a b : Int} (hb : b ≠ 0) (h : b.natAbs.log2 < 9000) : Op2 c σ (.int a) (.int b) (binaryOp .FloorDiv) (.val (.int (a.fdiv b)) σ) := fun ρ g as s x y I r1 r2 Q E K => by
  cases r1; cases r2; exact PyProof.Rows.floordiv_int hb (K g as _ _ .refl .refl (I.tok _) (.int _ _)) (.inl (PyProof.noPylong_of_log2 h))
theorem Op2.fmod {a b : Int} (hb : b ≠ 0) : Op2 c σ (.int a) (.int b) (binaryOp .Mod) (.val (.int (a.fmod b)) σ) := fun ρ g as s x y I r1 r2 Q E K => by
  cases r1; cases r2; exact PyProof.Rows.mod_int' hb (K g as _ _ .refl .refl (I.tok _) (.int _ _))
theorem Op2.pow {a n : Int} (hn : 0 ≤ n) (h2 : n ≤ 1000000) (ha : a.natAbs < 2 ^ 64) : Op2 c σ (.int a) (.int n) (binaryOp .Pow) (.val (.int (a ^ n.toNat)) σ) := fun ρ g as s x y I r1 r2 Q E K => by
  cases r1; cases r2; exact PyProof.Rows.pow_int_small hn h2 ha (K g as _ _ .refl .refl (I.tok _) (.int _ _))
theorem Op1.neg {a : Int} : Op1 c σ (.int a) (unaryOp .USub) (.val (.int (-a)) σ) := fun ρ g as s x I r1 Q E K => by
  cases r1; exact PySem.P.neg_int (K g as _ _ .refl .refl (I.tok _) (.int _ _))
theorem Op2.lt {a b : Int} : Op2 c σ (.int a) (.int b) (compareOp .Lt) (.val (.bool (decide (a < b))) σ) := fun ρ g as s x y I r1 r2 Q E K => by
  cases r1; cases r2; exact PySem.P.lt_int (K g as _ _ .refl .refl I (.bool _))
theorem Op2.le {a b : Int} : Op2 c σ (.int a) (.int b) (compareOp .LtE) (.val (.bool (decide (a ≤ b))) σ) := fun ρ g as s x y I r1 r2 Q E K => by
  cases r1; cases r2; exact PySem.P.le_int (K g as _ _ .refl .refl I (.bool _))
theorem Op2.gt {a b : Int} : Op2 c σ (.int a) (.int b) (compareOp .Gt) (.val (.bool (decide (a > b))) σ) := fun ρ g as s x y I r1 r2 Q E K => by
  cases r1; cases r2; exact PySem.P.gt_int (K g as _ _ .refl .refl I (.bool _))
theorem Op2.ge {a b : Int} : Op2 c σ (.int a) (.int b) (compareOp .GtE) (.val (.bool (decide (a ≥ b))) σ) := fun ρ g as s x y I r1 r2 Q E K => by
  cases r1; cases r2; exact PySem.P.ge_int (K g as _ _ .refl .refl I (.bool _))
theorem Op2.eqI {a b : Int} : Op2 c σ (.int a) (.int b) (compareOp .Eq) (.val (.bool (a == b)) σ) := fun ρ g as s x y I r1 r2 Q E K => by
  cases r1; cases r2; exact PySem.P.eq_int (K g as _ _ .refl .refl I (.bool _))
theorem Tru.int {a : Int} {b : Bool} (h : (a != 0) = b) : Tru c σ (.int a) b := fun ρ g as s x Q E I r k => by
  cases r; exact PySem.P.truthy_int (by rw [h]; exact k s I)
theorem Tru.bool {b : Bool} : Tru c σ (.bool b) b := fun ρ g as s x Q E I r k => by
  cases r; exact wpAny_truthy_bool (k s I)

/-! ### None -/
theorem Op2.isNone {v : V} {b : Bool} (h : (match v with | .none => true | _ => false) = b) : Op2 c σ v .none (compareOp .Is) (.val (.bool b) σ) := fun ρ g as s x y I r1 r2 Q E K => by
  cases r2
  subst h
  refine is_none ?_
  cases r1 <;> exact K g as _ _ .refl .refl I (.bool _)
theorem Op2.isNotNone {v : V} {b : Bool} (h : (match v with | .none => false | _ => true) = b) : Op2 c σ v .none (compareOp .IsNot) (.val (.bool b) σ) := fun ρ g as s x y I r1 r2 Q E K => by
  cases r2
  subst h
  refine isNot_none ?_
  cases r1 <;> exact K g as _ _ .refl .refl I (.bool _)
theorem Op2.neNone : Op2 c σ .none .none (compareOp .NotEq) (.val (.bool false) σ) := fun ρ g as s x y I r1 r2 Q E K => by
  cases r1; cases r2; exact EqNone.ne_none_none (K g as _ _ .refl .refl I (.bool _))

/-! ### strs -/
theorem Op2.addS {x y : PySem.Str} (h : x.length + y.length ≤ 16777216) : Op2 c σ (.str x) (.str y) (binaryOp .Add) (.val (.str (x ++ y)) σ) := fun ρ g as s a b I r1 r2 Q E K => by
  cases r1; cases r2; exact PyProof.Rows.add_str (fun t' tk => K g as _ _ .refl .refl (I.tok _) (.str _ _)) (by rw [sizeLine_eq]; exact h)
theorem empty_of_len {x : PySem.Str} (h : (x.length == 0) = true) : x = PySem.Str.empty := by
  have h0 : x.cps.size = 0 := by simpa [PySem.Str.length] using h
  have : x.cps = #[] := Array.eq_empty_of_size_eq_zero h0
  cases x
  simp only at this
  subst this
  rfl
theorem Op2.iaddS {x y : PySem.Str} (h : x.length + y.length ≤ 16777216) : Op2 c σ (.str x) (.str y) (inplaceOp .Add) (.val (.str (x ++ y)) σ) := fun ρ g as s a b I r1 r2 Q E K => by
  cases r1 with
  | str _ t =>
  cases r2 with
  | str _ u =>
  refine PySem.P.iadd_str ?_
  have e1 : ∀ z : PySem.Str, PySem.Str.empty ++ z = z := fun z => by
    cases z
    show PySem.Str.mk (#[] ++ _) = _
    rw [Array.empty_append]
  have e2 : ∀ z : PySem.Str, z ++ PySem.Str.empty = z := fun z => by
    cases z
    show PySem.Str.mk (_ ++ #[]) = _
    rw [Array.append_empty]
  by_cases hx : (x.length == 0) = true
  · rw [if_pos hx]
    have := empty_of_len hx
    subst this
    rw [e1] at K
    exact K g as _ _ .refl .refl I (.str _ _)
  · rw [if_neg hx]
    by_cases hy : (y.length == 0) = true
    · rw [if_pos hy]
      have := empty_of_len hy
      subst this
      rw [e2] at K
      exact K g as _ _ .refl .refl I (.str _ _)
    · rw [if_neg hy]
      exact ⟨by rw [strLen_append, sizeLine_eq]; exact h, K g as _ _ .refl .refl (I.tok _) (.str _ _)⟩

/-! ### bytes -/
theorem Op2.addB {a b : List UInt8} (h : a.length + b.length ≤ 16777216) : Op2 c σ (.bytes a) (.bytes b) (binaryOp .Add) (.val (.bytes (a ++ b)) σ) := fun ρ g as s x y I r1 r2 Q E K => by
  cases r1; cases r2
  refine KBy.add_bytes (by simpa using h) fun t' k => ?_
  rw [List.append_toArray]
  exact K g as _ _ .refl .refl (I.tok _) (.bytes _ _)
theorem Op2.eqB {a b : List UInt8} : Op2 c σ (.bytes a) (.bytes b) (compareOp .Eq) (.val (.bool (a == b)) σ) := fun ρ g as s x y I r1 r2 Q E K => by
  cases r1; cases r2; exact eq_bytes (K g as _ _ .refl .refl I (.bool _))
theorem Op2.neB {a b : List UInt8} : Op2 c σ (.bytes a) (.bytes b) (compareOp .NotEq) (.val (.bool (a != b)) σ) := fun ρ g as s x y I r1 r2 Q E K => by
  cases r1; cases r2; exact ne_bytes (K g as _ _ .refl .refl I (.bool _))
theorem Tru.bytes {a : List UInt8} {b : Bool} (hz : a.length ≤ 16777216) (h : (!a.isEmpty) = b) : Tru c σ (.bytes a) b := fun ρ g as s x Q E I r k => by
  cases r
  refine truthy_bytes (by simp; omega) ?_
  have : ((a.toArray.size : Int) != 0) = b := by
    rw [← h]
    cases a <;> simp <;> omega
  rw [this]
  exact k _ (I.tok _)
theorem flatten_one (x : UInt8) : ∀ n : Nat, (List.replicate n [x]).flatten = List.replicate n x
  | 0 => rfl
  | n + 1 => by rw [List.replicate_succ, List.flatten_cons, flatten_one x n, List.replicate_succ]; rfl
theorem Op2.mulB1 {x : UInt8} {n : Int} (h0 : -1048576 ≤ n) (h : n ≤ 1048576) : Op2 c σ (.bytes [x]) (.int n) (binaryOp .Mult) (.val (.bytes (List.replicate n.toNat x)) σ) := fun ρ g as s a b I r1 r2 Q E K => by
  cases r1; cases r2
  refine bytes_mul_any (b := [x]) (by simp) h0 h (by simp) fun t' k => ?_
  rw [flatten_one]
  exact K g as _ _ .refl .refl (I.tok _) (.bytes _ _)
theorem Op2.mulB4 {b : List UInt8} (hb : b ≠ []) (h : b.length ≤ 1000) : Op2 c σ (.bytes b) (.int 4) (binaryOp .Mult) (.val (.bytes (b ++ b ++ b ++ b)) σ) := fun ρ g as s x y I r1 r2 Q E K => by
  cases r1; cases r2
  refine bytes_mul_K (d := b ++ b ++ b ++ b) hb (by decide) (by decide) (by show b.length * 4 ≤ _; omega) (by simp [List.replicate]) fun t' k => ?_
  exact K g as _ _ .refl .refl (I.tok _) (.bytes _ _)

/-! ### built-in calls -/
theorem Cl.lenB {b : List UInt8} (h : b.length ≤ 16777216) : Cl c σ (.builtin "len") [.bytes b] [] [] (.val (.int b.length) σ) := fun ρ g as s xs ys I r1 r2 Q E K => by
  cases r1 with
  | cons r r1 => cases r1; cases r2; cases r
                 refine len_bytes (by simp; omega) ?_
                 have e : ((b.toArray.size : Nat) : Int) = (b.length : Int) := by simp
                 rw [e]
                 exact K g as _ _ .refl .refl (I.tok _) (.int _ _)
end
end Mine

/-! B2 -/
namespace Mine
namespace BF
theorem slot_translate : Slot "bytes" "translate" "bytes.translate" :=
  .of (owner := "bytes") (n := "translate") (by rw [typeLookup_type, builtinLookup_eq_fast]; kernel_rfl) (by decide +kernel) (by decide +kernel) (by decide +kernel)
    (by first | exact .inl (by decide +kernel) | exact .inr (by decide +kernel)) (by rw [isSubtype_type]; kernel_rfl)
theorem type_translate : typeOf (.builtin "bytes.translate") = pure (.type "method_descriptor") := by show builtinType _ = _; rw [builtinType_eq_fast]; kernel_rfl
theorem entry_translate : entryFor table "bytes.translate" = some Builtin.«bytes.translate» := entryFor_of_tree (by kernel_rfl)
theorem args_translate1 (a b : Value) : argsOk "bytes.translate" ⟨[a, b], []⟩ := by unfold argsOk; kernel_rfl
theorem args_translate2 (a b d : Value) : argsOk "bytes.translate" ⟨[a, b, d], []⟩ := by unfold argsOk; kernel_rfl
theorem slot_lstrip : Slot "bytes" "lstrip" "bytes.lstrip" :=
  .of (owner := "bytes") (n := "lstrip") (by rw [typeLookup_type, builtinLookup_eq_fast]; kernel_rfl) (by decide +kernel) (by decide +kernel) (by decide +kernel)
    (by first | exact .inl (by decide +kernel) | exact .inr (by decide +kernel)) (by rw [isSubtype_type]; kernel_rfl)
theorem type_lstrip : typeOf (.builtin "bytes.lstrip") = pure (.type "method_descriptor") := by show builtinType _ = _; rw [builtinType_eq_fast]; kernel_rfl
theorem entry_lstrip : entryFor table "bytes.lstrip" = some Builtin.«bytes.lstrip» := entryFor_of_tree (by kernel_rfl)
theorem args_lstrip (a b : Value) : argsOk "bytes.lstrip" ⟨[a, b], []⟩ := by unfold argsOk; kernel_rfl
theorem slot_index : Slot "bytes" "index" "bytes.index" :=
  .of (owner := "bytes") (n := "index") (by rw [typeLookup_type, builtinLookup_eq_fast]; kernel_rfl) (by decide +kernel) (by decide +kernel) (by decide +kernel)
    (by first | exact .inl (by decide +kernel) | exact .inr (by decide +kernel)) (by rw [isSubtype_type]; kernel_rfl)
theorem type_index : typeOf (.builtin "bytes.index") = pure (.type "method_descriptor") := by show builtinType _ = _; rw [builtinType_eq_fast]; kernel_rfl
theorem entry_index : entryFor table "bytes.index" = some Builtin.«bytes.index» := entryFor_of_tree (by kernel_rfl)
theorem args_index (a b : Value) : argsOk "bytes.index" ⟨[a, b], []⟩ := by unfold argsOk; kernel_rfl
theorem args_decode (a b : Value) : argsOk "bytes.decode" ⟨[a, b], []⟩ := by unfold argsOk; kernel_rfl
theorem slot_encode : Slot "str" "encode" "str.encode" :=
  .of (owner := "str") (n := "encode") (by rw [typeLookup_type, builtinLookup_eq_fast]; kernel_rfl) (by decide +kernel) (by decide +kernel) (by decide +kernel)
    (by first | exact .inl (by decide +kernel) | exact .inr (by decide +kernel)) (by rw [isSubtype_type]; kernel_rfl)
theorem type_encode : typeOf (.builtin "str.encode") = pure (.type "method_descriptor") := by show builtinType _ = _; rw [builtinType_eq_fast]; kernel_rfl
theorem entry_encode : entryFor table "str.encode" = some Builtin.«str.encode» := entryFor_of_tree (by kernel_rfl)
theorem args_encode (a b : Value) : argsOk "str.encode" ⟨[a, b], []⟩ := by unfold argsOk; kernel_rfl
end BF
section
variable {c : Cx} {σ : List Cell}
theorem if_not {α : Type} {M : Model} {A : Around} {E : Value → Shared → Prop} {s : Shared} {b : Bool} {x y : Sem α} {Q : α → Shared → Prop} (hc : b = false) (h : wpAny M A y Q E s) : wpAny M A (if b = true then x else y) Q E s := by
  subst hc; exact h
theorem if_so {α : Type} {M : Model} {A : Around} {E : Value → Shared → Prop} {s : Shared} {b : Bool} {x y : Sem α} {Q : α → Shared → Prop} (hc : b = true) (h : wpAny M A x Q E s) : wpAny M A (if b = true then x else y) Q E s := by
  subst hc; exact h
theorem ite_not {α : Type} {M : Model} {A : Around} {E : Value → Shared → Prop} {s : Shared} {p : Prop} [Decidable p] {x y : Sem α} {Q : α → Shared → Prop} (hc : ¬ p) (h : wpAny M A y Q E s) : wpAny M A (if p then x else y) Q E s := by
  rw [if_neg hc]; exact h
theorem ite_so {α : Type} {M : Model} {A : Around} {E : Value → Shared → Prop} {s : Shared} {p : Prop} [Decidable p] {x y : Sem α} {Q : α → Shared → Prop} (hc : p) (h : wpAny M A x Q E s) : wpAny M A (if p then x else y) Q E s := by
  rw [if_pos hc]; exact h

theorem Meth.bytes {b : List UInt8} {name : PySem.Str} {id : String} (slot : Slot "bytes" name id) (ty : typeOf (.builtin id) = pure (.type "method_descriptor")) : Meth c σ (.bytes b) name id := fun ρ g as s a pl Q E I r k => by
  cases r
  exact KBd.method_of _ (typeIs_bytes _ _ _) slot ty KBd.noRef k
theorem Meth.translate {b : List UInt8} : Meth c σ (.bytes b) "translate" "bytes.translate" := Meth.bytes BF.slot_translate BF.type_translate
theorem Meth.lstrip {b : List UInt8} : Meth c σ (.bytes b) "lstrip" "bytes.lstrip" := Meth.bytes BF.slot_lstrip BF.type_lstrip
theorem Meth.index {b : List UInt8} : Meth c σ (.bytes b) "index" "bytes.index" := Meth.bytes BF.slot_index BF.type_index
theorem Meth.decode {b : List UInt8} : Meth c σ (.bytes b) "decode" "bytes.decode" := Meth.bytes FB.slot_bytes_decode FB.type_bytes_decode
theorem Meth.hex {b : List UInt8} : Meth c σ (.bytes b) "hex" "bytes.hex" := Meth.bytes FB.slot_bytes_hex FB.type_bytes_hex

/-- bytes that may be the very ones handed in -/
theorem same_or_new {M : Model} {A : Around} {E : Value → Shared → Prop} {s : Shared} {b out : Array UInt8} {t : Tok} {msg : String} {Q : Fin → Shared → Prop} (hz : out.size ≤ 16777216) (cond : Bool) (hc : cond = true → out = b)
    (k : ∀ t' tk, Q (.done (.ret (.bytes out t'))) { s with toks := tk }) :
    wpAny M A (if cond = true then (do rule msg; ret (← Builtin.Bytes.Kind.bytes.same (.bytes b t)) : Sem Fin) else (do ret (← Builtin.Bytes.Kind.bytes.new out) : Sem Fin)) Q E s := by
  cases h : cond with
  | true =>
    obtain rfl := hc h
    refine if_so rfl (wpAny_bind (wpAny_rule (wpAny_bind ?_)))
    show wpAny _ _ (typeOf (.bytes out t) >>= fun x => _) _ _ _
    refine wpAny_bind (wpAny_typeOf (typeIs_bytes _ _ _) ?_)
    exact wpAny_pure (wpAny_pure (k t s.toks))
  | false =>
    refine if_not rfl (wpAny_bind ?_)
    exact wpAny_mkBytes (wpAny_pure (k _ _)) (by rw [sizeLine_eq]; exact hz)

/-! translate -/
def trB (tab : List UInt8) (b : List UInt8) : List UInt8 := b.map fun c => tab.getD c.toNat c
def delB (del : List UInt8) (b : List UInt8) : List UInt8 := b.filter fun c => !del.contains c
theorem Cl.translate {b tab : List UInt8} (ht : tab.length = 256) (hz : b.length ≤ 16777216) : Cl c σ (.builtin "bytes.translate") [.bytes b, .bytes tab] [] [] (.val (.bytes (trB tab b)) σ) := fun ρ g as s xs ys I r1 r2 Q E K => by
  cases r1 with
  | cons ra r1 =>
  cases r1 with
  | cons rb r1 =>
  cases r1; cases r2; cases ra with
  | bytes _ t =>
  cases rb with
  | bytes _ u =>
  refine wpAny_call_entry BF.slot_translate (typeIs_bytes _ _ _) BF.entry_translate ?_ (BF.args_translate1 _ _)
  show wpAny _ _ (Builtin.Bytes.translateM .bytes ⟨[.bytes b.toArray t, .bytes tab.toArray u], []⟩) _ _ _
  unfold Builtin.Bytes.translateM
  dsimp only
  refine ite_not (Nat.not_lt.mpr (show 1 + 0 ≤ 2 by decide)) ?_
  refine if_not rfl ?_
  refine if_not rfl ?_
  refine wpAny_bind (wpAny_of_eq (a := tab.toArray) KBd.like_eq ?_)
  refine if_not (by simp [ht]) ?_
  refine wpAny_bind (wpAny_pure ?_)
  refine wpAny_bind (wpAny_of_eq (a := #[]) rfl ?_)
  refine wpAny_bind (wpAny_of_eq (a := b.toArray) rfl ?_)
  have e : (b.toArray.filter (fun x => !(#[] : Array UInt8).contains x)).map (fun c => tab.toArray.getD c.toNat c) = (trB tab b).toArray := by
    have : b.toArray.filter (fun x => !(#[] : Array UInt8).contains x) = b.toArray := by simp
    rw [this]
    simp [trB]
  show wpAny _ _ (if (((b.toArray.filter (fun x => !(#[] : Array UInt8).contains x)).map (fun c => tab.toArray.getD c.toNat c)) == b.toArray) = true then _ else (do ret (← Builtin.Bytes.Kind.bytes.new ((b.toArray.filter (fun x => !(#[] : Array UInt8).contains x)).map (fun c => tab.toArray.getD c.toNat c))) : Sem Fin)) _ _ _
  rw [e]
  exact same_or_new (by simpa [trB] using hz) _ (fun h => eq_of_beq h) fun t' tk => ⟨_, rfl, K g as _ _ .refl .refl (I.tok _) (.bytes _ _)⟩
theorem Cl.delete {b del : List UInt8} (hz : b.length ≤ 16777216) : Cl c σ (.builtin "bytes.translate") [.bytes b, .none, .bytes del] [] [] (.val (.bytes (delB del b)) σ) := fun ρ g as s xs ys I r1 r2 Q E K => by
  cases r1 with
  | cons ra r1 =>
  cases r1 with
  | cons rn r1 =>
  cases r1 with
  | cons rb r1 =>
  cases r1; cases r2; cases rn; cases ra with
  | bytes _ t =>
  cases rb with
  | bytes _ u =>
  refine wpAny_call_entry BF.slot_translate (typeIs_bytes _ _ _) BF.entry_translate ?_ (BF.args_translate2 _ _ _)
  show wpAny _ _ (Builtin.Bytes.translateM .bytes ⟨[.bytes b.toArray t, .none, .bytes del.toArray u], []⟩) _ _ _
  unfold Builtin.Bytes.translateM
  dsimp only
  refine ite_not (Nat.not_lt.mpr (show 2 + 0 ≤ 2 by decide)) ?_
  refine if_not rfl ?_
  refine wpAny_bind (wpAny_of_eq (a := none) rfl ?_)
  refine wpAny_bind (wpAny_of_eq (a := del.toArray) KBd.like_eq ?_)
  refine wpAny_bind (wpAny_of_eq (a := b.toArray) rfl ?_)
  have e : (b.toArray.filter (fun x => !del.toArray.contains x)).map (fun c => c) = (delB del b).toArray := by
    simp [delB]
  show wpAny _ _ (if (((b.toArray.filter (fun x => !del.toArray.contains x)).map (fun c => c)) == b.toArray) = true then _ else (do ret (← Builtin.Bytes.Kind.bytes.new ((b.toArray.filter (fun x => !del.toArray.contains x)).map (fun c => c))) : Sem Fin)) _ _ _
  rw [e]
  exact same_or_new (by simpa [delB] using Nat.le_trans (List.length_filter_le _ _) hz) _ (fun h => eq_of_beq h) fun t' tk => ⟨_, rfl, K g as _ _ .refl .refl (I.tok _) (.bytes _ _)⟩

/-! lstrip -/
def lstripB (set b : List UInt8) : List UInt8 := b.dropWhile fun c => set.contains c
theorem dropWhile_le {α : Type} (p : α → Bool) : ∀ l : List α, (l.dropWhile p).length ≤ l.length
  | [] => Nat.le_refl _
  | a :: r => by
    rw [List.dropWhile_cons]
    split
    · exact Nat.le_succ_of_le (dropWhile_le p r)
    · exact Nat.le_refl _
theorem dropWhile_len {α : Type} (p : α → Bool) : ∀ l : List α, (l.dropWhile p).length = l.length → l.dropWhile p = l
  | [], _ => rfl
  | a :: r, h => by
    rw [List.dropWhile_cons] at h ⊢
    by_cases hp : p a = true
    · rw [if_pos hp] at h
      have := dropWhile_le p r
      simp at h
      omega
    · rw [if_neg hp]
theorem Cl.lstrip {b set : List UInt8} (hz : b.length ≤ 16777216) : Cl c σ (.builtin "bytes.lstrip") [.bytes b, .bytes set] [] [] (.val (.bytes (lstripB set b)) σ) := fun ρ g as s xs ys I r1 r2 Q E K => by
  cases r1 with
  | cons ra r1 =>
  cases r1 with
  | cons rb r1 =>
  cases r1; cases r2; cases ra with
  | bytes _ t =>
  cases rb with
  | bytes _ u =>
  refine wpAny_call_entry BF.slot_lstrip (typeIs_bytes _ _ _) BF.entry_lstrip ?_ (BF.args_lstrip _ _)
  show wpAny _ _ (Builtin.Bytes.stripM .bytes "lstrip" true false ⟨[.bytes b.toArray t, .bytes set.toArray u], []⟩) _ _ _
  unfold Builtin.Bytes.stripM
  dsimp only
  refine wpAny_bind (wpAny_of_eq (a := (.bytes b.toArray t, [.bytes set.toArray u])) rfl ?_)
  dsimp only
  refine wpAny_bind (wpAny_of_eq (a := set.toArray) KBd.like_eq ?_)
  refine wpAny_bind (wpAny_pure ?_)
  refine wpAny_bind (wpAny_of_eq (a := b.toArray) rfl ?_)
  have e : b.toArray.toList.dropWhile set.toArray.contains = lstripB set b := by
    show b.dropWhile _ = b.dropWhile _
    congr 1
    funext x
    simp
  simp only [if_true]
  rw [e]
  refine same_or_new (by simpa [lstripB] using Nat.le_trans (dropWhile_le _ _) hz) _ (fun h => ?_) fun t' tk => ⟨_, rfl, K g as _ _ .refl .refl (I.tok _) (.bytes _ _)⟩
  have h' : (lstripB set b).length = b.length := by simpa using h
  rw [show lstripB set b = b from dropWhile_len _ _ h']
  rfl
end
end Mine

/-! B3 -/
namespace Mine
section
variable {c : Cx} {σ : List Cell}

/-! hex -/
def hexL (b : List UInt8) : List Nat := b.flatMap fun c => [Builtin.Bytes.hexDigit (c.toNat / 16), Builtin.Bytes.hexDigit (c.toNat % 16)]
def hexS (b : List UInt8) : PySem.Str := ⟨(hexL b).toArray⟩
theorem hex_fold : ∀ (b : List UInt8) (n : Nat) (acc : Array Nat), (b.zipIdx n).foldl (fun (out : Array Nat) (ci : UInt8 × Nat) => (out.push (Builtin.Bytes.hexDigit (ci.1.toNat / 16))).push (Builtin.Bytes.hexDigit (ci.1.toNat % 16))) acc = acc ++ (hexL b).toArray
  | [], n, acc => by simp [hexL]
  | x :: r, n, acc => by
    rw [List.zipIdx_cons, List.foldl_cons, hex_fold r]
    apply Array.toList_inj.mp
    simp [hexL]
theorem Cl.hex {b : List UInt8} (hz : b.length ≤ 8000000) : Cl c σ (.builtin "bytes.hex") [.bytes b] [] [] (.val (.str (hexS b)) σ) := fun ρ g as s xs ys I r1 r2 Q E K => by
  cases r1 with
  | cons ra r1 =>
  cases r1; cases r2; cases ra with
  | bytes _ t =>
  refine wpAny_call_entry FB.slot_bytes_hex (typeIs_bytes _ _ _) FB.entry_bytes_hex ?_ (FB.args_bytes_hex_1 _)
  show wpAny _ _ (Builtin.Bytes.hexOf "bytes.hex" false Builtin.Bytes.payload (fun _ => pure ()) ⟨[.bytes b.toArray t], []⟩) _ _ _
  unfold Builtin.Bytes.hexOf
  dsimp only
  refine wpAny_bind (wpAny_of_eq (a := [none, none]) (by kernel_rfl) ?_)
  dsimp only
  refine wpAny_bind (wpAny_pure ?_)
  refine wpAny_bind (wpAny_pure ?_)
  refine wpAny_bind (wpAny_pure ?_)
  refine wpAny_bind (wpAny_of_eq (a := b.toArray) rfl ?_)
  have e := hex_fold b 0 #[]
  rw [Array.empty_append] at e
  show wpAny _ _ (do ret (← mkStr ⟨b.zipIdx.foldl (fun (out : Array Nat) (ci : UInt8 × Nat) => (out.push (Builtin.Bytes.hexDigit (ci.1.toNat / 16))).push (Builtin.Bytes.hexDigit (ci.1.toNat % 16))) #[]⟩)) _ _ _
  rw [e]
  refine wpAny_bind (wpAny_mkStr (wpAny_pure ⟨_, rfl, K g as _ _ .refl .refl (I.tok _) (.str _ _)⟩) ?_)
  show (hexL b).toArray.size ≤ sizeLine
  have : (hexL b).length = 2 * b.length := by
    clear K e I
    induction b with
    | nil => rfl
    | cons x r ih => simp [hexL] at ih ⊢; rw [ih (by simp at hz; omega)]; omega
  rw [List.size_toArray, this, sizeLine_eq]
  omega

/-! index, in -/
theorem find_one (l : List UInt8) (x : UInt8) : ∀ (i n : Nat), n + i = l.length →
    ((List.range' i n).find? fun j => l.toArray.extract j (j + 1) == #[x]) = ((l.drop i).findIdx? (· == x)).map (· + i)
  | i, 0, h => by
    have : l.drop i = [] := List.drop_eq_nil_of_le (by omega)
    simp [this]
  | i, n + 1, h => by
    have hi : i < l.length := by omega
    have hd : l.drop i = l[i] :: l.drop (i + 1) := List.drop_eq_getElem_cons hi
    rw [List.range'_succ, List.find?_cons, hd, List.findIdx?_cons, find_one l x (i + 1) n (by omega)]
    have he : l.toArray.extract i (i + 1) = #[l[i]] := by
      apply Array.toList_inj.mp
      rw [Array.toList_extract]
      simp
      rw [hd]
      rfl
    rw [he]
    by_cases hx : l[i] = x
    · simp [hx]
    · have h1 : ((#[l[i]] : Array UInt8) == #[x]) = false := by simp [hx]
      have h2 : (l[i] == x) = false := by simpa using hx
      rw [h1, h2]
      simp only [Bool.false_eq_true, if_false]
      cases (l.drop (i + 1)).findIdx? (· == x) with
      | none => rfl
      | some k => simp; omega
theorem noBuffer_int : typeLookup (.type "int") "__buffer__" = pure none := by rw [typeLookup_type, builtinLookup_eq_fast]; kernel_rfl
theorem buffer_int {M : Model} {A : Around} {E : Value → Shared → Prop} {s : Shared} {id : String} {i : Int} {u : Tok} {Q : Option (Array UInt8) → Shared → Prop} (h : Q none s) : wpAny M A (Builtin.Bytes.buffer? id (.int i u)) Q E s := by
  unfold Builtin.Bytes.buffer?
  refine wpAny_bind (wpAny_specialOf (typeIs_int s i u) noBuffer_int ?_)
  refine wpAny_bind (wpAny_specialOf (typeIs_int s i u) noBuffer_int ?_)
  exact wpAny_pure h
theorem Cl.index {b : List UInt8} {x : Int} {k : Nat} (h0 : 0 ≤ x) (h1 : x < 256) (hz : b.length ≤ 16777216) (hk : b.findIdx? (· == x.toNat.toUInt8) = some k) : Cl c σ (.builtin "bytes.index") [.bytes b, .int x] [] [] (.val (.int k) σ) := fun ρ g as s xs ys I r1 r2 Q E K => by
  cases r1 with
  | cons ra r1 =>
  cases r1 with
  | cons rb r1 =>
  cases r1; cases r2; cases ra with
  | bytes _ t =>
  cases rb with
  | int _ u =>
  refine wpAny_call_entry BF.slot_index (typeIs_bytes _ _ _) BF.entry_index ?_ (BF.args_index _ _)
  show wpAny _ _ (Builtin.Bytes.searchM .bytes "index" false true ⟨[.bytes b.toArray t, .int x u], []⟩) _ _ _
  unfold Builtin.Bytes.searchM Builtin.Bytes.searchArgs
  dsimp only
  refine wpAny_bind (wpAny_bind (wpAny_of_eq (a := (.bytes b.toArray t, [.int x u])) rfl ?_))
  dsimp only
  refine wpAny_bind (wpAny_of_eq (a := none) rfl ?_)
  refine wpAny_bind (wpAny_of_eq (a := none) rfl ?_)
  refine wpAny_bind (buffer_int ?_)
  dsimp only
  refine wpAny_bind (wpAny_specialOf (typeIs_int _ x u) F.slot_int_index.lookup ?_)
  refine if_not rfl ?_
  refine wpAny_bind (wpAny_of_eq (a := x) rfl ?_)
  refine if_not (by simp; omega) ?_
  refine wpAny_bind (wpAny_pure ?_)
  refine wpAny_bind (wpAny_of_eq (a := b.toArray) rfl ?_)
  refine wpAny_pure ?_
  have hlen : 0 < b.length := by
    cases b with
    | nil => simp at hk
    | cons => simp
  have ef : Builtin.Bytes.find? b.toArray #[x.toNat.toUInt8] 0 b.length = some k := by
    unfold Builtin.Bytes.find?
    have e1 : (List.range (b.length + 1 - (0 + (#[x.toNat.toUInt8] : Array UInt8).size))).map (· + 0) = List.range' 0 b.length := by
      simp [List.range_eq_range']
    rw [e1]
    have := find_one b x.toNat.toUInt8 0 b.length rfl
    simp only [List.drop_zero, Nat.add_zero] at this
    rw [hk] at this
    exact this
  have hw : Builtin.Bytes.window b.toArray.size none none = (0, (b.toArray.size : Int)) := by
    unfold Builtin.Bytes.window
    simp only [Option.getD_none, Option.getD_some]
    rw [if_neg (by omega), if_neg (by omega)]
    rw [Int.min_self]
  simp only [hw]
  rw [if_neg (by simp; omega)]
  simp only [Option.bind_some, Int.toNat_natCast, Int.toNat_zero, List.size_toArray, Bool.false_eq_true, if_false]
  rw [ef]
  exact wpAny_ret_mkInt (K g as _ _ .refl .refl (I.tok _) (.int _ _))

theorem gives_contains {b : List UInt8} {x : Int} {t u : Tok} (h0 : 0 ≤ x) (h1 : x < 256) : Gives (Builtin.«bytes.__contains__» ⟨[.bytes b.toArray t, .int x u], []⟩) (.val (.bool (b.contains x.toNat.toUInt8))) := by
  refine .of_wp fun M A E s Q hq => ?_
  unfold Builtin.«bytes.__contains__»
  refine wpAny_bind (wpAny_of_eq (a := (.bytes b.toArray t, [.int x u])) rfl ?_)
  dsimp only
  refine wpAny_bind ?_
  unfold Builtin.Bytes.containsIn
  refine wpAny_bind (wpAny_of_eq (a := .ok x) rfl ?_)
  refine wpAny_bind (wpAny_of_eq (a := some b.toArray) KBy.buffer_eq ?_)
  dsimp only
  refine if_not (by simp; omega) ?_
  refine wpAny_pure (wpAny_pure ⟨_, rfl, ?_⟩)
  rw [List.contains_toArray]
  exact hq
theorem Op2.notInB {b : List UInt8} {x : Int} {r : Bool} (h0 : 0 ≤ x) (h1 : x < 256) (hr : (!b.contains x.toNat.toUInt8) = r) : Op2 c σ (.int x) (.bytes b) (compareOp .NotIn) (.val (.bool r) σ) := fun ρ g as s xa ya I r1 r2 Q E K => by
  cases r1 with
  | int _ u =>
  cases r2 with
  | bytes _ t =>
  refine notIn_gives (typeIs_bytes _ _ _) FB.slot_bytes_contains FB.entry_bytes_contains (FB.args_bytes_contains_2 _ _) (gives_contains h0 h1) ?_
  rw [hr]
  exact K g as _ _ .refl .refl I (.bool _)
end
end Mine

/-! B4 -/
namespace Mine
section
variable {c : Cx} {ρ : Loc} {σ σ₁ σ₂ σ₃ : List Cell}

/-! ### slices -/
def Part (c : Cx) (ρ : Loc) (σ : List Cell) (e : Option PySem.Expr) (p : Option Int) (σ' : List Cell) : Prop :=
  ∀ g as s (Q : Value → Shared → Prop) E, Inv c g as ρ σ s → (∀ g' as' s' x, Tn c g g' → Ext as as' → Inv c g' as' ρ σ' s' → IsPart x p → Q x s') → wpAny (model PR c.w) c.A (evalPart e c.env) Q E s
theorem Part.none : Part c ρ σ none none σ := fun g as s Q E I k => wpAny_pure (k g as s _ .refl .refl I .none)
theorem Part.some {e : PySem.Expr} {i : Int} (h : Ev c ρ σ e (.val (.int i) σ₁)) : Part c ρ σ (some e) (some i) σ₁ := fun g as s Q E I k =>
  h.val I fun g₁ as₁ s₁ a t₁ x₁ I₁ ra => by
    cases ra with
    | int _ t => exact k g₁ as₁ s₁ _ t₁ x₁ I₁ (.int _ _)

theorem noTemp {value : PySem.Expr} {v r : Value} (h : ∀ a, v ≠ .ref a) : letTemporaryGo value v r = pure () := by
  cases value <;> cases v <;> first | rfl | exact absurd rfl (h _)
def sl {α : Type} (b : List α) (lo hi : Option Int) : List α := (b.drop (lo.elim 0 (clipAt b.length))).take (hi.elim b.length (clipAt b.length) - lo.elim 0 (clipAt b.length))
theorem sl_le {α : Type} (b : List α) (lo hi : Option Int) : (sl b lo hi).length ≤ b.length := by
  unfold sl
  rw [List.length_take, List.length_drop]
  omega

theorem Inv.pushed {g : Heap} {as : List Nat} {s : Shared} (I : Inv c g as ρ σ s) (ob : Obj) (k : Nat) : Inv c g as ρ σ { s with heap := s.heap.push ob, toks := k } :=
  I.grow fun b o e => Heap.get?_push_of_some _ e

theorem Ev.sliceB {value : PySem.Expr} {lo hi : Option PySem.Expr} {p pos : Pos} {b : List UInt8} {l u : Option Int} (hv : Ev c ρ σ value (.val (.bytes b) σ₁)) (hl : Part c ρ σ₁ lo l σ₂) (hu : Part c ρ σ₂ hi u σ₃) (hz : b.length ≤ 16777216) :
    Ev c ρ σ (.Subscript value (.Slice lo hi none p) pos) (.val (.bytes (sl b l u)) σ₃) :=
  fun g as s I Q E K => Subscript_ (hv.val I fun g₁ as₁ s₁ a t₁ x₁ I₁ ra => wpAny_Slice (hl g₁ as₁ s₁ _ E I₁ fun g₂ as₂ s₂ x t₂ x₂ I₂ px => hu g₂ as₂ s₂ _ E I₂ fun g₃ as₃ s₃ y t₃ x₃ I₃ py => by
    rw [evalPart_none]
    refine wpAny_pure ?_
    cases ra with
    | bytes _ t =>
    refine tail_of_ItemOn (ops := [.ref s₃.heap.objs.size, .bytes b.toArray t]) ⟨"bytes", _, FB.slot_bytes_getitem.lookup, typeIs_bytes _ _ _, getItem_meets (typeIs_bytes _ _ _) (by decide) FB.slot_bytes_getitem FB.entry_bytes_getitem (FB.args_bytes_getitem_2 _ _) (KBc.meets_slice2 b.toArray t _ px py)
      ⟨Heap.IsSliceOf.new _ _ _ _, Nat.le_trans (KBc.size_picked_le _ l u) (by rw [sizeLine_eq]; simpa using hz), fun t' k => ?_⟩⟩ rfl (fun r => noTemp (by intro a e; cases e))
    rw [KBc.picked_eq]
    have e : ((b.toArray.toList.drop (l.elim 0 (clipAt b.toArray.size))).take (u.elim b.toArray.size (clipAt b.toArray.size) - l.elim 0 (clipAt b.toArray.size))) = sl b l u := by
      simp [sl]
    rw [e]
    exact K g₃ as₃ _ _ ((t₁.trans t₂).trans t₃) ((x₁.trans x₂).trans x₃) (I₃.pushed _ _) (.bytes _ _)))

theorem Ev.itemB {value ie : PySem.Expr} {pos : Pos} {b : List UInt8} {i : Int} (hv : Ev c ρ σ value (.val (.bytes b) σ₁)) (hi : Ev c ρ σ₁ ie (.val (.int i) σ₂)) (hz : b.length ≤ 16777216) (h0 : 0 ≤ i) (h1 : i < b.length)
    (hs : ∀ o x, subscripted ie false o x = operate [o, x] (getItem o x) := by intro _ _; rfl) : Ev c ρ σ (.Subscript value ie pos) (.val (.int (b.getD i.toNat 0).toNat) σ₂) :=
  fun g as s I Q E K => Subscript_ (hv.val I fun g₁ as₁ s₁ a t₁ x₁ I₁ ra => hi.val I₁ fun g₂ as₂ s₂ y t₂ x₂ I₂ ry => by
    cases ra with
    | bytes _ t =>
    cases ry with
    | int _ u =>
    exact tail_of_ItemOn (ops := [.bytes b.toArray t, .int i u]) ⟨"bytes", _, FB.slot_bytes_getitem.lookup, typeIs_bytes _ _ _, getItem_bytes (Nat.le_trans hz (by decide)) h0 h1 (K g₂ as₂ _ _ (t₁.trans t₂) (x₁.trans x₂) (I₂.tok _) (.int _ _))⟩ (hs _ _) (fun r => noTemp (by intro a e; cases e)))

def slS (x : PySem.Str) (lo hi : Option Int) : PySem.Str := Txt.slice x lo hi
theorem Ev.sliceS {value : PySem.Expr} {lo hi : Option PySem.Expr} {p pos : Pos} {x : PySem.Str} {l u : Option Int} (hv : Ev c ρ σ value (.val (.str x) σ₁)) (hl : Part c ρ σ₁ lo l σ₂) (hu : Part c ρ σ₂ hi u σ₃) (hz : x.length ≤ 16777216) :
    Ev c ρ σ (.Subscript value (.Slice lo hi none p) pos) (.val (.str (Txt.slice x l u)) σ₃) :=
  fun g as s I Q E K => Subscript_ (hv.val I fun g₁ as₁ s₁ a t₁ x₁ I₁ ra => wpAny_Slice (hl g₁ as₁ s₁ _ E I₁ fun g₂ as₂ s₂ px t₂ x₂ I₂ hx => hu g₂ as₂ s₂ _ E I₂ fun g₃ as₃ s₃ py t₃ x₃ I₃ hy => by
    rw [evalPart_none]
    refine wpAny_pure ?_
    cases ra with
    | str _ t =>
    have fin : ∀ t' k, Q (.str (Txt.slice x l u) t') { s₃ with heap := s₃.heap.push { cls := .type "slice", data := .fields #[px, py, .none] }, toks := k } := fun t' k =>
      K g₃ as₃ _ _ ((t₁.trans t₂).trans t₃) ((x₁.trans x₂).trans x₃) (I₃.pushed _ _) (.str _ _)
    have sz := Nat.le_trans (Txt.slice_le x l u) (show x.length ≤ sizeLine by rw [sizeLine_eq]; exact hz)
    refine tail_of_ItemOn (ops := [.ref s₃.heap.objs.size, .str x t]) ⟨"str", _, F.slot_str_getitem.lookup, typeIs_str _ _ _, ?_⟩ rfl (fun r => noTemp (by intro a e; cases e))
    cases hx with
    | none =>
      cases hy with
      | none => exact wpAny_getItem_str_slice (l := Option.none) (u := Option.none) (st := Option.none) ⟨_, Heap.get?_push_size _ rfl, rfl, rfl⟩ rfl (post_val_or_str ⟨sz, fun t' k => fin t' k⟩)
      | int j uj => exact wpAny_getItem_str_slice (l := Option.none) (u := Option.some (j, uj)) (st := Option.none) ⟨_, Heap.get?_push_size _ rfl, rfl, rfl⟩ rfl (post_val_or_str ⟨sz, fun t' k => fin t' k⟩)
    | int i ui =>
      cases hy with
      | none => exact wpAny_getItem_str_slice (l := Option.some (i, ui)) (u := Option.none) (st := Option.none) ⟨_, Heap.get?_push_size _ rfl, rfl, rfl⟩ rfl (post_val_or_str ⟨sz, fun t' k => fin t' k⟩)
      | int j uj => exact wpAny_getItem_str_slice (l := Option.some (i, ui)) (u := Option.some (j, uj)) (st := Option.none) ⟨_, Heap.get?_push_size _ rfl, rfl, rfl⟩ rfl (post_val_or_str ⟨sz, fun t' k => fin t' k⟩)))
end
end Mine

/-! B5 -/
namespace Mine
abbrev bndO (id T : String) : Obj := { cls := .type "builtin_function_or_method", data := .fields #[.builtin id, .type T] }
section
variable {c : Cx} {ρ : Loc} {σ σ₁ σ₂ σ₃ : List Cell} {o : Res}

theorem Inv.allocAt {g : Heap} {as : List Nat} {s : Shared} {cl : Cell} {ob : Obj} {x : Nat} {h' : Heap} {k : Nat} {m : PySem.Str → Option Value} {led : Led} (I : Inv c g as ρ σ s) (e : led.map (·.1) = as) (l : LocOk as ρ m) (t : Sto as σ led)
    (F' : Fr g c.L h' m) (N' : News g c.L h' ((x, ob) :: (c.fz ++ led))) (hlt : ∀ p ∈ c.fz ++ led, p.1 < x) (hc : CellRep as cl ob) : Inv c g (as ++ [x]) ρ (σ ++ [cl]) { s with heap := h', toks := k } := by
  obtain ⟨B, D, sim, nd, off, _⟩ := I
  refine ⟨B, D, by rw [sim], ?_, ?_, m, led ++ [(x, ob)], F', ?_, by simp [e], l.ext .one, (t.ext .one).snoc (hc.ext .one)⟩
  · rw [List.nodup_append]
    refine ⟨nd, by simp, fun a ha b hb => ?_⟩
    rw [List.mem_singleton.mp hb]
    rw [← e] at ha
    obtain ⟨p, hp, rfl⟩ := List.mem_map.mp ha
    exact Nat.ne_of_lt (hlt p (List.mem_append_right _ hp))
  · intro i a hk ha p hp
    rcases Nat.lt_or_ge i as.length with hi | hi
    · rw [List.getElem?_append_left hi] at ha
      exact off i a hk ha p hp
    · rw [List.getElem?_append_right hi] at ha
      have := List.mem_of_getElem? ha
      rw [List.mem_singleton.mp this]
      exact Nat.ne_of_lt (hlt p (List.mem_append_left _ hp))
  · intro p hp
    rw [← List.append_assoc] at hp
    rcases List.mem_append.mp hp with hp | hp
    · exact N' p (.tail _ hp)
    · rw [List.mem_singleton.mp hp]
      exact N' _ (.head _)

/-! ### class methods of a type -/
def MethT (c : Cx) (σ : List Cell) (T : String) (name : PySem.Str) (id : String) : Prop :=
  ∀ ρ g as s (pl : Sem Bool) (Q : Value × List Value → Shared → Prop) E, Inv c g as ρ σ s → (∀ s' a, Inv c g (as ++ [a]) ρ (σ ++ [.bnd id T]) s' → Q (.ref a, []) s') → wpAny (model PR c.w) c.A (getMethod (.type T) name pl) Q E s
/-- what the built-in function gives whose first argument is bound -/
def ClB (c : Cx) (σ : List Cell) (id T : String) (vs : List V) (names : List PySem.Str) (us : List V) (o : Res) : Prop :=
  ∀ ρ g as s a xs ys, Inv c g as ρ σ s → s.heap.get? a = some (bndO id T) → RepAll as vs xs → RepAll as us ys → Tr c ρ σ g as s (PySem.call (.ref a) xs (names.zip ys)) o

theorem Keep.bnd {a : Nat} {id T : String} : ∀ h : Heap, h.get? a = some (bndO id T) → ∃ k, (k = Keeper.frame ∨ k = Keeper.machine ∨ k = Keeper.boundFrame) ∧ Looks (model PR c.w) h (keeperOf (.ref a)) k := fun h X => ⟨.machine, .inr (.inl rfl), by
  intro A Q E s hs hq
  unfold keeperOf
  refine wpAny_bind (wpAny_load (hs _ _ X) ?_)
  simp only [show (Value.type "builtin_function_or_method" != Value.type "method") = true by decide, show (Value.type "builtin_function_or_method" == Value.type "builtin_function_or_method" || Value.type "builtin_function_or_method" == Value.type "method-wrapper") = true by decide, if_true]
  exact wpAny_pure hq⟩

theorem Ev.methT {x : PySem.Str} {np : Pos} {name : PySem.Str} {apos pos : Pos} {e : PySem.Expr} {es : List PySem.Expr} {ks : List Keyword} {T id : String} {vs us : List V} {pl : Sem Bool} (O : c.Ok) (hv : Ev c ρ σ (.Name x np) (.val (.ty T) σ)) (hm : MethT c σ T name id)
    (he : Evs c ρ (σ ++ [.bnd id T]) pos (e :: es) vs σ₂) (hks : Kws c ρ σ₂ pos ks us σ₃) (hi : σ₃[σ.length]? = some (.bnd id T)) (ho : ClB c σ₃ id T vs ((backToKw pos (keywordEach ks c.env)).filterMap (·.1)) us o)
    (hq : eval (.Call (.Attribute (.Name x np) name apos) (e :: es) ks pos) c.env = (do
      let ov ← eval (.Name x np) c.env
      standAt apos.atName
      let (f, first) ← holding [ov] (getMethod ov name pl)
      callWith pos f first (backTo pos (starEach (e :: es) c.env)) (backToKw pos (keywordEach ks c.env))) := by rfl)
    (hn : starEach (e :: es) c.env = (false, eval e c.env) :: starEach es c.env := by rfl)
    (hp : ((backTo pos (starEach (e :: es) c.env)).any (·.1) || (backToKw pos (keywordEach ks c.env)).any (·.1.isNone)) = false := by rfl)
    (hall : (backToKw pos (keywordEach ks c.env)).all (·.1.isSome) = true := by rfl) : Ev c ρ σ (.Call (.Attribute (.Name x np) name apos) (e :: es) ks pos) o :=
  fun g as s I Q E K => methodCall_KW (hv.val I fun g₁ as₁ s₁ a t₁ x₁ I₁ ra => by
    obtain rfl := rep_ty _ _ ra
    refine hm ρ g₁ as₁ s₁ pl _ E I₁ fun s₂ b I₂ => ?_
    refine callWith_of (first := []) (P := fun h => h.get? b = some (bndO id T)) hp Keep.bnd (evalArgs_kw2 hall (he g₁ _ s₂ _ E I₂ ?_) hn)
    exact fun g₃ as₃ s₃ xs t₃ x₃ I₃ r₁ => hks g₃ as₃ s₃ _ E I₃ fun g₄ as₄ s₄ ys t₄ x₄ I₄ r₂ => by
      have hb : Rep as₄ (.ref σ.length) (.ref b) := .ref _ _ ((x₃.trans x₄).at (by rw [← I₁.len]; simp))
      obtain ⟨b', ob, e', hob, hc⟩ := I₄.cell hi hb
      cases e'
      cases hc
      exact ⟨hob, ho ρ g₄ as₄ s₄ b xs ys I₄ hob (r₁.ext x₄) r₂ Q E (K.mono ((t₁.trans t₃).trans t₄) ((x₁.trans (.trans .one x₃)).trans x₄))⟩) hq

theorem call_bound {prog : Program} {w : World} {A : Around} {E : Value → Shared → Prop} {s : Shared} {id T : String} {a : Nat} {xs : List Value} {kw : List (PySem.Str × Value)} {B : Builtin} {Q : Value → Shared → Prop} (ho : s.heap.get? a = some (bndO id T)) (hk : checkBoundCall id ⟨.type T :: xs, kw⟩ = pure ()) (entry : entryFor table id = some B)
    (hq : ∀ as, (Code.builtin id as).quiet = true)
    (tree : ∀ {P : Fin → Shared → Prop} {E' : Value → Shared → Prop} {A' : Around}, (∀ v s', Q v s' → P (.done (.ret v)) s') → wpAny (model prog w) A' (B ⟨.type T :: xs, kw⟩) P E' s) :
    wpAny (model prog w) A (PySem.call (.ref a) xs kw) Q E s := by
  refine wpAny_call (codeAny_of_tree ?_)
  show wpAny _ A.in1 (callAny (.ref a) ⟨xs, kw⟩) _ _ s
  simp only [callAny]
  refine wpAny_bind (wpAny_load ho ?_)
  simp only [show (Value.type "builtin_function_or_method" == Value.type "method" || Value.type "builtin_function_or_method" == Value.type "builtin_function_or_method" || Value.type "builtin_function_or_method" == Value.type "method-wrapper") = true by decide, if_true]
  refine if_so (by decide) ?_
  refine wpAny_bind (wpAny_of_eq (a := ()) hk ?_)
  refine wpAny_bind (wpAny_pure (wpAny_pure ?_))
  exact ⟨hq _, codeAny_builtin entry (tree fun v s' h => h)⟩

/-! ### int.from_bytes -/
def valB (b : List UInt8) : Nat := b.foldl (fun acc x => acc * 256 + x.toNat) 0
theorem MethT.from_bytes (O : c.Ok) : MethT c σ "int" "from_bytes" "int.from_bytes" := fun ρ g as s pl Q E I k => by
  have I₀ := I
  obtain ⟨B, D, sim, nd, off, m, led, F, N, e, l, t⟩ := I₀
  refine KFB.getm (K := hd.heap_39 c.w.params) F N (I.X O) (by k_is) fun x h' F' N' hlt => ?_
  exact k _ x (I.allocAt e l t F' N' hlt (.bnd _ _))

theorem grown' {M : Model} {A : Around} {E : Value → Shared → Prop} {s : Shared} {n k : Nat} {Q : Value → Shared → Prop} (hn : n < 2 ^ k) (hk : k ≤ 134217728) (h : Q (.int (n : Int) s.toks) { s with toks := s.toks + 1 }) : wpAny M A (mkIntGrown (n : Int)) Q E s := by
  unfold mkIntGrown
  have hl : ¬ ((n : Int).natAbs.log2 ≥ bitsLine) := by
    rw [Int.natAbs_natCast]
    have hb : bitsLine = 134217728 := by first | rfl | decide
    by_cases hz : n = 0
    · subst hz
      rw [hb]
      decide
    · have h1 := (Nat.log2_lt hz).mpr hn
      omega
  rw [if_neg hl]
  exact wpAny_mkInt h
theorem valB_lt (b : List UInt8) : valB b < 256 ^ b.length := by
  have := KFB.fold_lt b 0
  simpa [valB] using this

theorem fb_tail {M : Model} {A : Around} {E : Value → Shared → Prop} {s : Shared} {b : List UInt8} {P : Fin → Shared → Prop} (hz : b.length ≤ 1000000) (h : P (.done (.ret (.int (valB b) s.toks))) { s with toks := s.toks + 1 }) :
    wpAny M A (mkIntGrown (b.foldl (fun (acc : Int) (x : UInt8) => acc * 256 + (x.toNat : Int)) ((0 : Nat) : Int)) >>= fun v => if (Value.type "int" == Value.type "int") = true then (ret v >>= fun x => pure x) else (do rule "int.from_bytes.subclass"; ret (← runValue (.call (.type "int") ⟨[v], []⟩)))) P E s := by
  rw [KFB.foldI_eq]
  refine wpAny_bind (grown' (k := 8 * b.length) ?_ (by omega) ?_)
  · have := valB_lt b
    rw [Nat.pow_mul]
    exact this
  refine if_so (by decide +kernel) ?_
  exact wpAny_bind (wpAny_pure (wpAny_pure h))
theorem ClB.from_bytes {b : List UInt8} (hz : b.length ≤ 1000000) : ClB c σ "int.from_bytes" "int" [.bytes b, .str "big"] [] [] (.val (.int (valB b)) σ) := fun ρ g as s a xs ys I ho r1 r2 Q E K => by
  cases r1 with
  | cons ra r1 =>
  cases r1 with
  | cons rb r1 =>
  cases r1; cases r2; cases ra with
  | bytes _ t =>
  cases rb with
  | str _ u =>
  refine call_bound ho (by kernel_rfl) KFB.entry_fb (fun _ => KFB.quiet_fb) fun {P E' A'} hP => ?_
  show wpAny _ _ (Builtin.«int.from_bytes» ⟨[.type "int", .bytes b.toArray t, .str "big" u], []⟩) _ _ _
  unfold Builtin.«int.from_bytes»
  refine wpAny_bind (wpAny_of_eq (a := true) KFB.type_int ?_)
  refine if_not rfl ?_
  refine wpAny_bind (wpAny_of_eq (a := true) F.conv_sub_int ?_)
  refine if_not rfl ?_
  refine wpAny_bind (wpAny_of_eq (a := [some (.bytes b.toArray t), some (.str "big" u), none]) (by kernel_rfl) ?_)
  refine wpAny_bind (wpAny_of_eq (a := PySem.Str.ofString "big") (by kernel_rfl) ?_)
  refine wpAny_bind (wpAny_of_eq (a := false) rfl ?_)
  refine wpAny_bind (wpAny_of_eq (a := false) (by kernel_rfl) ?_)
  refine wpAny_bind (wpAny_of_eq (a := b.toArray) rfl ?_)
  exact fb_tail hz (hP _ _ (K g as _ _ .refl .refl (I.tok _) (.int _ _)))
theorem ClB.from_bytesK {b : List UInt8} (hz : b.length ≤ 1000000) : ClB c σ "int.from_bytes" "int" [.bytes b] ["byteorder", "signed"] [.str "big", .bool false] (.val (.int (valB b)) σ) := fun ρ g as s a xs ys I ho r1 r2 Q E K => by
  cases r1 with
  | cons ra r1 =>
  cases r1; cases r2 with
  | cons rb r2 =>
  cases r2 with
  | cons rc r2 =>
  cases r2; cases rc; cases ra with
  | bytes _ t =>
  cases rb with
  | str _ u =>
  show wpAny _ _ (PySem.call (.ref a) [.bytes b.toArray t] [("byteorder", .str "big" u), ("signed", .bool false)]) _ _ _
  refine call_bound ho (by kernel_rfl) KFB.entry_fb (fun _ => KFB.quiet_fb) fun {P E' A'} hP => ?_
  unfold Builtin.«int.from_bytes»
  refine wpAny_bind (wpAny_of_eq (a := true) KFB.type_int ?_)
  refine if_not rfl ?_
  refine wpAny_bind (wpAny_of_eq (a := true) F.conv_sub_int ?_)
  refine if_not rfl ?_
  refine wpAny_bind (wpAny_of_eq (a := [some (.bytes b.toArray t), some (.str "big" u), some (.bool false)]) (by kernel_rfl) ?_)
  refine wpAny_bind (wpAny_of_eq (a := PySem.Str.ofString "big") (by kernel_rfl) ?_)
  refine wpAny_bind (wpAny_truthy_bool ?_)
  refine wpAny_bind (wpAny_of_eq (a := false) (by kernel_rfl) ?_)
  refine wpAny_bind (wpAny_of_eq (a := b.toArray) rfl ?_)
  exact fb_tail hz (hP _ _ (K g as _ _ .refl .refl (I.tok _) (.int _ _)))

/-! ### int.to_bytes -/
def beB (n x : Nat) : List UInt8 := (List.range n).reverse.map fun i => UInt8.ofNat (x / 256 ^ i % 256)
theorem low_be {x n : Nat} (h : x < 256 ^ n) : (KTBy.low (x : Int) n).reverse = beB n x := by
  have e := KTBy.low_ints (x := (x : Int)) (n := n) (by omega) (by rw [KTBy.p256]; exact Int.ofNat_lt.mpr h)
  have : KTBy.low (x : Int) n = (List.range n).map fun i => UInt8.ofNat (x / 256 ^ i % 256) := by
    refine List.ext_getElem (by rw [KTBy.low_length]; simp) fun i h1 h2 => ?_
    have hi : i < n := by simpa using h2
    have q := congrArg (·[i]?) e
    simp only [List.getElem?_map, List.getElem?_eq_getElem h1, Option.map_some, List.getElem?_range hi] at q
    have q' := Option.some.inj q
    rw [KTBy.p256, ← Int.natCast_ediv] at q'
    have q2 : ((KTBy.low (x : Int) n)[i]).toNat = x / 256 ^ i % 256 := by
      have : ((x / 256 ^ i : Nat) : Int) % 256 = ((x / 256 ^ i % 256 : Nat) : Int) := by omega
      rw [this] at q'
      exact Int.ofNat.inj q'
    rw [List.getElem_map, List.getElem_range]
    apply UInt8.toNat_inj.mp
    rw [q2, UInt8.toNat_ofNat']
    omega
  rw [this, beB, ← List.map_reverse]
theorem Meth.to_bytes {x : Int} : Meth c σ (.int x) "to_bytes" "int.to_bytes" := fun ρ g as s a pl Q E I r k => by
  cases r
  exact KTBy.method k
theorem tb_tail {M : Model} {A : Around} {E : Value → Shared → Prop} {s : Shared} {x k : Nat} {Q : Fin → Shared → Prop} (hk : k ≤ 1000000) (h1 : x < 256 ^ k) (h : ∀ t' k', Q (.done (.ret (.bytes (beB k x).toArray t'))) { s with toks := k' }) :
    wpAny M A (mkBytes (List.toArray (List.reverse (KTBy.low (x : Int) (Int.toNat (k : Int))))) >>= fun v => ret v) Q E s := by
  rw [Int.toNat_natCast, low_be h1]
  refine wpAny_bind (wpAny_mkBytes (wpAny_pure (h _ _)) ?_)
  rw [List.size_toArray, sizeLine_eq]
  simp [beB]
  omega
end
end Mine

/-! B6 -/
namespace Mine
section
variable {c : Cx} {ρ : Loc} {σ σ₁ σ₂ σ₃ : List Cell} {o : Res}

theorem tb_args (a b d e : Value) : argsOk "int.to_bytes" ⟨[a, b], [("byteorder", d), ("signed", e)]⟩ := by unfold argsOk; kernel_rfl
theorem Cl.to_bytes {x k : Nat} (hk : k ≤ 1000000) (h1 : x < 256 ^ k) : Cl c σ (.builtin "int.to_bytes") [.int x, .int k, .str "big"] [] [] (.val (.bytes (beB k x)) σ) := fun ρ g as s xs ys I r1 r2 Q E K => by
  cases r1 with
  | cons ra r1 =>
  cases r1 with
  | cons rb r1 =>
  cases r1 with
  | cons rd r1 =>
  cases r1; cases r2; cases ra with
  | int _ t =>
  cases rb with
  | int _ u =>
  cases rd with
  | str _ v =>
  refine wpAny_call_entry KTBy.slot (typeIs_int s _ t) KTBy.entry ?_ (KTBy.args _ _ _)
  have hb := KTBy.bits_le (x := (x : Int)) (k := k) rfl (by omega) (by rw [KTBy.p256]; exact Int.ofNat_lt.mpr h1)
  show wpAny _ _ (Builtin.Int.intOfSelf (.int x t) >>= fun y => _) _ _ s
  refine wpAny_bind (wpAny_of_eq (a := (x : Int)) rfl ?_)
  show wpAny _ _ (Builtin.Int.intBindNamed "to_bytes" ["length", "byteorder", "signed"] 0 2 [.int (k : Int) u, .str (PySem.Str.ofString "big") v] [] >>= fun l => _) _ _ s
  refine wpAny_bind (wpAny_of_eq (a := [some (.int (k : Int) u), some (.str (PySem.Str.ofString "big") v), none]) (by kernel_rfl) ?_)
  show wpAny _ _ (Builtin.Int.intIndex "int.to_bytes" (.int (k : Int) u) >>= fun n => _) _ _ s
  refine wpAny_bind (wpAny_of_eq (a := (k : Int)) rfl ?_)
  refine if_not (by show (decide ((k : Int) < -(2 ^ 63 : Int)) || decide ((k : Int) ≥ 2 ^ 63)) = false; rw [decide_eq_false (show ¬ ((k : Int) < -(2 ^ 63 : Int)) by omega), decide_eq_false (show ¬ ((k : Int) ≥ 2 ^ 63) by omega)]; rfl) ?_
  refine wpAny_bind (wpAny_of_eq (a := PySem.Str.ofString "big") (by kernel_rfl) ?_)
  refine wpAny_bind (wpAny_of_eq (a := false) rfl ?_)
  refine wpAny_bind (wpAny_of_eq (a := false) (by kernel_rfl) ?_)
  refine wpAny_ite_false (decide_eq_false (show ¬ ((k : Int) < 0) by omega)) ?_
  refine wpAny_ite_false (decide_eq_false (show ¬ ((k : Int) > 2 ^ 63 - 1 - 33) by omega)) ?_
  refine wpAny_ite_false (decide_eq_false (show ¬ ((k : Int) > (sizeLine : Int)) by rw [sizeLine_eq]; omega)) ?_
  refine if_not (by show (decide ((x : Int) < 0) && !false) = false; rw [decide_eq_false (show ¬ (x : Int) < 0 by omega)]; rfl) ?_
  refine if_not (by show (_ && decide ((Builtin.Int.intBits x : Int) > 8 * (k : Int))) = false; rw [decide_eq_false (show ¬ ((Builtin.Int.intBits x : Int) > 8 * (k : Int)) by omega), Bool.and_false]) ?_
  exact tb_tail hk h1 fun t' k' => ⟨_, rfl, K g as _ _ .refl .refl (I.tok _) (.bytes _ _)⟩
theorem Cl.to_bytesK {x k : Nat} (hk : k ≤ 1000000) (h1 : x < 256 ^ k) : Cl c σ (.builtin "int.to_bytes") [.int x, .int k] ["byteorder", "signed"] [.str "big", .bool false] (.val (.bytes (beB k x)) σ) := fun ρ g as s xs ys I r1 r2 Q E K => by
  cases r1 with
  | cons ra r1 =>
  cases r1 with
  | cons rb r1 =>
  cases r2 with
  | cons rd r2 =>
  cases r2 with
  | cons re r2 =>
  cases r1; cases r2; cases re; cases ra with
  | int _ t =>
  cases rb with
  | int _ u =>
  cases rd with
  | str _ v =>
  show wpAny _ _ (PySem.call (.builtin "int.to_bytes") (.int x t :: [.int k u]) [("byteorder", .str "big" v), ("signed", .bool false)]) _ _ _
  refine wpAny_call_entry_kw KTBy.slot (typeIs_int s _ t) KTBy.entry ?_ (tb_args _ _ _ _)
  have hb := KTBy.bits_le (x := (x : Int)) (k := k) rfl (by omega) (by rw [KTBy.p256]; exact Int.ofNat_lt.mpr h1)
  show wpAny _ _ (Builtin.Int.intOfSelf (.int x t) >>= fun y => _) _ _ s
  refine wpAny_bind (wpAny_of_eq (a := (x : Int)) rfl ?_)
  show wpAny _ _ (Builtin.Int.intBindNamed "to_bytes" ["length", "byteorder", "signed"] 0 2 [.int (k : Int) u] [("byteorder", .str "big" v), ("signed", .bool false)] >>= fun l => _) _ _ s
  refine wpAny_bind (wpAny_of_eq (a := [some (.int (k : Int) u), some (.str (PySem.Str.ofString "big") v), some (.bool false)]) (by kernel_rfl) ?_)
  show wpAny _ _ (Builtin.Int.intIndex "int.to_bytes" (.int (k : Int) u) >>= fun n => _) _ _ s
  refine wpAny_bind (wpAny_of_eq (a := (k : Int)) rfl ?_)
  refine if_not (by show (decide ((k : Int) < -(2 ^ 63 : Int)) || decide ((k : Int) ≥ 2 ^ 63)) = false; rw [decide_eq_false (show ¬ ((k : Int) < -(2 ^ 63 : Int)) by omega), decide_eq_false (show ¬ ((k : Int) ≥ 2 ^ 63) by omega)]; rfl) ?_
  refine wpAny_bind (wpAny_of_eq (a := PySem.Str.ofString "big") (by kernel_rfl) ?_)
  refine wpAny_bind (wpAny_truthy_bool ?_)
  refine wpAny_bind (wpAny_of_eq (a := false) (by kernel_rfl) ?_)
  refine wpAny_ite_false (decide_eq_false (show ¬ ((k : Int) < 0) by omega)) ?_
  refine wpAny_ite_false (decide_eq_false (show ¬ ((k : Int) > 2 ^ 63 - 1 - 33) by omega)) ?_
  refine wpAny_ite_false (decide_eq_false (show ¬ ((k : Int) > (sizeLine : Int)) by rw [sizeLine_eq]; omega)) ?_
  refine if_not (by show (decide ((x : Int) < 0) && !false) = false; rw [decide_eq_false (show ¬ (x : Int) < 0 by omega)]; rfl) ?_
  refine if_not (by show (_ && decide ((Builtin.Int.intBits x : Int) > 8 * (k : Int))) = false; rw [decide_eq_false (show ¬ ((Builtin.Int.intBits x : Int) > 8 * (k : Int)) by omega), Bool.and_false]) ?_
  exact tb_tail hk h1 fun t' k' => ⟨_, rfl, K g as _ _ .refl .refl (I.tok _) (.bytes _ _)⟩

/-! bit_length, divmod -/
theorem Meth.bit_length {x : Int} : Meth c σ (.int x) "bit_length" "int.bit_length" := fun ρ g as s a pl Q E I r k => by
  cases r
  exact getMethod_int_bit_length k
theorem Cl.bit_length {x : Int} : Cl c σ (.builtin "int.bit_length") [.int x] [] [] (.val (.int (Builtin.Int.intBits x)) σ) := fun ρ g as s xs ys I r1 r2 Q E K => by
  cases r1 with
  | cons ra r1 =>
  cases r1; cases r2; cases ra with
  | int _ t =>
  exact call_int_bit_length (K g as _ _ .refl .refl (I.tok _) (.int _ _))
theorem Cl.divmod {a b : Int} (hb : b ≠ 0) (h : b.natAbs.log2 < 9000) : Cl c σ (.builtin "divmod") [.int a, .int b] [] [] (.val (.ref σ.length) (σ ++ [.tuple [.int (a.fdiv b), .int (a.fmod b)]])) := fun ρ g as s xs ys I r1 r2 Q E K => by
  cases r1 with
  | cons ra r1 =>
  cases r1 with
  | cons rb r1 =>
  cases r1; cases r2; cases ra with
  | int _ t =>
  cases rb with
  | int _ u =>
  refine divmod_int hb ?_ (.inl (PyProof.noPylong_of_log2 h))
  obtain ⟨J, q⟩ := (I.tok (s.toks + 1 + 1)).alloc (cl := .tuple [.int (a.fdiv b), .int (a.fmod b)]) (.tuple (xs := [.int (a.fdiv b) s.toks, .int (a.fmod b) (s.toks + 1)]) (.cons (.int _ _) (.cons (.int _ _) .nil))) rfl
  exact K g _ _ _ .refl .one J (.ref _ _ q)

/-! bytes.fromhex -/
theorem fh_owner : (kfb_private% "ownerAndName") "bytes.fromhex" = ("bytes", "fromhex") := by first | decide +kernel | kernel_rfl
theorem fh_type : typeOf (.builtin "bytes.fromhex") = pure (.type "classmethod_descriptor") := by show builtinType _ = _; rw [builtinType_eq_fast]; kernel_rfl
theorem fh_entry : entryFor table "bytes.fromhex" = some Builtin.«bytes.fromhex» := entryFor_of_tree (by kernel_rfl)
theorem fh_quiet {as : Args} : (Code.builtin "bytes.fromhex" as).quiet = true := Code.quiet_builtin _ (by decide +kernel)
theorem fh_isType : isType (.type "bytes") = pure true := by first | rfl | kernel_rfl | (unfold isType; rw [isSubtype_type]; kernel_rfl)
theorem fh_sub : isSubtype (.type "bytes") (.type "bytes") = pure true := by rw [isSubtype_type]; kernel_rfl
theorem fh_get {M : Model} {A : Around} {E : Value → Shared → Prop} {s : Shared} {P : Fin → Shared → Prop} (h : P (.done (.ret (.ref s.heap.objs.size))) { s with heap := s.heap.push (bndO "bytes.fromhex" "bytes") }) :
    wpAny M A (Builtin.«classmethod_descriptor.__get__» ⟨[.builtin "bytes.fromhex", .none, .type "bytes"], []⟩) P E s := by
  unfold Builtin.«classmethod_descriptor.__get__»
  refine wpAny_bind (wpAny_of_eq (a := (.builtin "bytes.fromhex", none, some (.type "bytes"))) (by first | rfl | kernel_rfl) ?_)
  simp only [fh_owner]
  refine wpAny_bind (wpAny_of_eq (a := .type "bytes") rfl ?_)
  refine wpAny_bind (wpAny_of_eq (a := true) fh_isType ?_)
  refine if_not rfl ?_
  refine wpAny_bind (wpAny_of_eq (a := true) fh_sub ?_)
  refine if_not rfl ?_
  exact wpAny_bind (wpAny_newObj_type (wpAny_pure h))
theorem fh_getm {prog : Program} {w : World} {A : Around} {E : Value → Shared → Prop} {s : Shared} {K : Frag} {h₀ : Heap} {L : Addr} {m : PySem.Str → Option Value} {news : List (Addr × Obj)} {pl : Sem Bool} {Q : Value × List Value → Shared → Prop} (F : Fr h₀ L s.heap m) (N : News h₀ L s.heap news) (X₀ : K.In h₀)
    (e : findCls K (.type "bytes") (.type "type") (PySem.Str.ofString "fromhex") = some (.get (.builtin "classmethod_descriptor.__get__") (.builtin "bytes.fromhex") .none (.type "bytes")))
    (h : ∀ x h', Fr h₀ L h' m → News h₀ L h' ((x, bndO "bytes.fromhex" "bytes") :: news) → (∀ p ∈ news, p.1 < x) → Q (.ref x, []) { s with heap := h', toks := s.toks + 1 }) :
    wpAny (model prog w) A (getMethod (.type "bytes") (PySem.Str.ofString "fromhex") pl) Q E s := by
  have X := X₀.keeps F.keep
  have hstub : opaqueClassAbove (.type "bytes") = pure none := by unfold opaqueClassAbove; dsimp only; rw [show Manifest.isStub "bytes" = false by decide +kernel]; rfl
  have ht : typeOf (.type "bytes") = pure (.type "type") := by first | rfl | kernel_rfl
  have L0 : Looks (model prog w) s.heap (typeOf (.type "bytes")) (.type "type") := Looks.of_pure ht
  have hg : findIn K (.type "type") "__getattribute__" = some (some (.builtin "type.__getattribute__")) := type_tga
  unfold getMethod specialOf
  refine wpAny_bind (wpAny_bind (L0.here ((looks_findIn X hg).here ?_)))
  dsimp only
  rw [if_pos canon_tga]
  refine wpAny_bind (wpAny_mono (Q := fun v => Q (v, [])) (E := E) ?_ (fun _ _ z => wpAny_pure z) fun _ _ z => z)
  have LO : Looks (model prog w) s.heap (opaqueClassAbove (.type "bytes")) none := Looks.of_pure hstub
  refine cls_open X LO L0 hg (looks_hook X (r := none) (by rfl)) (by show subIn K _ _ = _; rfl) e ?_
  show wpAny _ _ (holding [.builtin "bytes.fromhex"] (call (.builtin "classmethod_descriptor.__get__") [.builtin "bytes.fromhex", .none, .type "bytes"]) >>= fun v => ret v) _ _ _
  refine wpAny_bind (wpAny_holding (wpAny_call_entry KFB.slot_get fh_type KFB.entry_get (fh_get ⟨_, rfl, wpAny_pure (wpAny_pure (h _ _ (F.push _) (News.push F N _) fun p hp => Heap.lt_size (N p hp).1))⟩) (KFB.args_get _ _ _)))
theorem MethT.fromhex (O : c.Ok) : MethT c σ "bytes" "fromhex" "bytes.fromhex" := fun ρ g as s pl Q E I k => by
  have I₀ := I
  obtain ⟨B, D, sim, nd, off, m, led, F, N, e, l, t⟩ := I₀
  refine fh_getm (K := hd.heap_39 c.w.params) F N (I.X O) (by k_is) fun x h' F' N' hlt => ?_
  exact k _ x (I.allocAt e l t F' N' hlt (.bnd _ _))

theorem hexDigit_hv : ∀ n : Nat, n < 16 → Builtin.Bytes.hexDigit n < 128 := by decide
theorem hexL_length (b : List UInt8) : (hexL b).length = 2 * b.length := by
  induction b with
  | nil => rfl
  | cons x r ih => simp [hexL] at ih ⊢; rw [ih]; omega
theorem hexL_lt {b : List UInt8} {n : Nat} (h : n ∈ hexL b) : n < 128 := by
  simp only [hexL, List.mem_flatMap] at h
  obtain ⟨x, _, h⟩ := h
  simp only [List.mem_cons, List.mem_nil_iff, or_false] at h
  have := x.toNat_lt
  rcases h with rfl | rfl
  · exact hexDigit_hv _ (by omega)
  · exact hexDigit_hv _ (by omega)
theorem fh_all {F : Nat → Nat → List Nat → Array UInt8 → Except Nat (Array UInt8)} (h0 : ∀ i out, F 0 i [] out = .ok out)
    (hs : ∀ n i x y rest out, x < 16 → y < 16 → F (n + 1) i (Builtin.Bytes.hexDigit x :: Builtin.Bytes.hexDigit y :: rest) out = F n (i + 2) rest (out.push (x * 16 + y).toUInt8))
    (hn : ∀ n i out, F (n + 1) i [] out = .ok out) : ∀ (b : List UInt8) (n i : Nat) (out : Array UInt8), b.length ≤ n → F n i (hexL b) out = .ok (out ++ b.toArray)
  | [], 0, i, out, _ => by rw [show hexL [] = [] from rfl, h0]; simp
  | [], n + 1, i, out, _ => by rw [show hexL [] = [] from rfl, hn]; simp
  | x :: r, 0, i, out, h => by simp at h
  | x :: r, n + 1, i, out, h => by
    have hx := x.toNat_lt
    rw [show hexL (x :: r) = Builtin.Bytes.hexDigit (x.toNat / 16) :: Builtin.Bytes.hexDigit (x.toNat % 16) :: hexL r from rfl, hs n i _ _ _ _ (by omega) (by omega), fh_all h0 hs hn r n _ _ (by simp at h; omega)]
    have : (x.toNat / 16 * 16 + x.toNat % 16).toUInt8 = x := by
      rw [Nat.div_add_mod']
      exact UInt8.ofNat_toNat
    rw [this]
    congr 1
    apply Array.toList_inj.mp
    simp
theorem ClB.fromhex {b : List UInt8} (hz : b.length ≤ 1000000) : ClB c σ "bytes.fromhex" "bytes" [.str (hexS b)] [] [] (.val (.bytes b) σ) := fun ρ g as s a xs ys I ho r1 r2 Q E K => by
  cases r1 with
  | cons ra r1 =>
  cases r1; cases r2; cases ra with
  | str _ t =>
  refine call_bound ho (by kernel_rfl) fh_entry (fun _ => fh_quiet) fun {P E' A'} hP => ?_
  show wpAny _ _ (Builtin.Bytes.fromhexM .bytes ⟨[.type "bytes", .str (hexS b) t], []⟩) _ _ _
  unfold Builtin.Bytes.fromhexM
  dsimp only
  refine wpAny_bind (wpAny_of_eq (a := "bytes") (by kernel_rfl) ?_)
  refine if_not rfl ?_
  refine wpAny_bind (wpAny_of_eq (a := some (hexS b)) rfl ?_)
  dsimp only
  have hn : Array.findIdx? (fun x => decide (x ≥ 128)) (hexS b).cps = none := by
    rw [Array.findIdx?_eq_none_iff]
    intro x hx
    have := hexL_lt (b := b) (by simpa [hexS] using hx)
    simp; omega
  rw [hn]
  dsimp only
  split
  · rename_i i heq
    exact absurd (heq.symm.trans (fh_all (fun _ _ => rfl) (fun n i x y rest out q1 q2 => by
      have hx : x = 0 ∨ x = 1 ∨ x = 2 ∨ x = 3 ∨ x = 4 ∨ x = 5 ∨ x = 6 ∨ x = 7 ∨ x = 8 ∨ x = 9 ∨ x = 10 ∨ x = 11 ∨ x = 12 ∨ x = 13 ∨ x = 14 ∨ x = 15 := by omega
      have hy : y = 0 ∨ y = 1 ∨ y = 2 ∨ y = 3 ∨ y = 4 ∨ y = 5 ∨ y = 6 ∨ y = 7 ∨ y = 8 ∨ y = 9 ∨ y = 10 ∨ y = 11 ∨ y = 12 ∨ y = 13 ∨ y = 14 ∨ y = 15 := by omega
      rcases hx with rfl|rfl|rfl|rfl|rfl|rfl|rfl|rfl|rfl|rfl|rfl|rfl|rfl|rfl|rfl|rfl <;> rcases hy with rfl|rfl|rfl|rfl|rfl|rfl|rfl|rfl|rfl|rfl|rfl|rfl|rfl|rfl|rfl|rfl <;> rfl) (fun _ _ _ => rfl) b _ _ _ (by simp [hexS, hexL_length]; omega))) (by intro h; cases h)
  · rename_i bb heq
    have e := heq.symm.trans (fh_all (fun _ _ => rfl) (fun n i x y rest out q1 q2 => by
      have hx : x = 0 ∨ x = 1 ∨ x = 2 ∨ x = 3 ∨ x = 4 ∨ x = 5 ∨ x = 6 ∨ x = 7 ∨ x = 8 ∨ x = 9 ∨ x = 10 ∨ x = 11 ∨ x = 12 ∨ x = 13 ∨ x = 14 ∨ x = 15 := by omega
      have hy : y = 0 ∨ y = 1 ∨ y = 2 ∨ y = 3 ∨ y = 4 ∨ y = 5 ∨ y = 6 ∨ y = 7 ∨ y = 8 ∨ y = 9 ∨ y = 10 ∨ y = 11 ∨ y = 12 ∨ y = 13 ∨ y = 14 ∨ y = 15 := by omega
      rcases hx with rfl|rfl|rfl|rfl|rfl|rfl|rfl|rfl|rfl|rfl|rfl|rfl|rfl|rfl|rfl|rfl <;> rcases hy with rfl|rfl|rfl|rfl|rfl|rfl|rfl|rfl|rfl|rfl|rfl|rfl|rfl|rfl|rfl|rfl <;> rfl) (fun _ _ _ => rfl) b _ _ _ (by simp [hexS, hexL_length]; omega))
    cases e
    refine if_so (by decide) ?_
    rw [Array.empty_append]
    exact wpAny_bind (wpAny_mkBytes (wpAny_pure (hP _ _ (K g as _ _ .refl .refl (I.tok _) (.bytes _ _)))) (by rw [sizeLine_eq]; simp; omega))
end
end Mine

/-! C1 -/
namespace Mine

/-! ### triples over them -/
def TrC (c : Cx) (ρ : Loc) (g : Heap) (as : List Nat) (s : Shared) (t : Sem Value) (o : Res) : Prop := ∀ Q E, EvCont c g as ρ Q E o → wpC (model PR c.w) c.A t Q E s
def EvC (c : Cx) (ρ : Loc) (σ : List Cell) (e : PySem.Expr) (o : Res) : Prop := ∀ g as s, Inv c g as ρ σ s → TrC c ρ g as s (eval e c.env) o
def ExC (c : Cx) (ρ : Loc) (σ : List Cell) (body : List Stmt) (o : Out) : Prop := ∀ g as s Q E, Inv c g as ρ σ s → ExCont c g as Q E o → wpC (model PR c.w) c.A (execs body c.env) Q E s
def ExC1 (c : Cx) (ρ : Loc) (σ : List Cell) (st : Stmt) (o : Out) : Prop := ∀ g as s Q E, Inv c g as ρ σ s → ExCont c g as Q E o → wpC (model PR c.w) c.A (exec st c.env) Q E s
def TstC (c : Cx) (ρ : Loc) (σ : List Cell) (e : PySem.Expr) (b : Bool) (σ' : List Cell) : Prop :=
  ∀ g as s (Q : Bool → Shared → Prop) E, Inv c g as ρ σ s → (∀ g' as' s', Tn c g g' → Ext as as' → Inv c g' as' ρ σ' s' → Q b s') → wpC (model PR c.w) c.A (isTrue e c.env (eval e c.env)) Q E s
def ClC (c : Cx) (σ : List Cell) (f : Value) (vs : List V) (names : List PySem.Str) (us : List V) (o : Res) : Prop :=
  ∀ ρ g as s xs ys, Inv c g as ρ σ s → RepAll as vs xs → RepAll as us ys → TrC c ρ g as s (PySem.call f xs (names.zip ys)) o

section
variable {c : Cx} {ρ ρ' : Loc} {σ σ₁ σ₂ σ₃ σ₄ : List Cell} {o : Res}
theorem Ev.C {e : PySem.Expr} (h : Ev c ρ σ e o) : EvC c ρ σ e o := fun g as s I Q E K => wpC.any (h g as s I Q E K)
theorem Ex.C {b : List Stmt} {o : Out} (h : Ex c ρ σ b o) : ExC c ρ σ b o := fun g as s Q E I K => wpC.any (h g as s Q E I K)
theorem Ex1.C {st : Stmt} {o : Out} (h : Ex1 c ρ σ st o) : ExC1 c ρ σ st o := fun g as s Q E I K => wpC.any (h g as s Q E I K)
theorem Tst.C {e : PySem.Expr} {b : Bool} (h : Tst c ρ σ e b σ₁) : TstC c ρ σ e b σ₁ := fun g as s Q E I k => wpC.any (h g as s Q E I k)
theorem Cl.C {f : Value} {vs us : List V} {names : List PySem.Str} (h : Cl c σ f vs names us o) : ClC c σ f vs names us o := fun ρ g as s xs ys I r1 r2 Q E K => wpC.any (h ρ g as s xs ys I r1 r2 Q E K)

theorem wpC.cons {st : Stmt} {rest : List Stmt} {env : Env} {M : Model} {A : Around} {E : Value → Shared → Prop} {s : Shared} {Q : Flow → Shared → Prop}
    (h : wpC M A (exec st env) (fun f s' => match f with | .next => wpC M A (execs rest env) Q E s' | f => Q f s') E s) : wpC M A (execs (st :: rest) env) Q E s := fun Γ p hΓ d b => by
  rw [execs_cons, Sem.wp_bind']
  refine Sem.wp_mono M Γ _ (fun f p' s' h' => ?_) (fun _ _ _ h' => h') _ _ (h Γ p hΓ d b)
  cases f <;> first | exact h' Γ p' hΓ d b | exact h'
theorem ExC.next {st : Stmt} {rest : List Stmt} {o : Out} (h : ExC1 c ρ σ st (.next ρ' σ₁)) (k : ExC c ρ' σ₁ rest o) : ExC c ρ σ (st :: rest) o :=
  fun g as s Q E I K => wpC.cons (h g as s _ E I fun g' as' s' t x I' => k g' as' s' Q E I' (K.mono t x))
theorem ExC.ret {st : Stmt} {rest : List Stmt} {v : V} (h : ExC1 c ρ σ st (.ret v σ₁)) : ExC c ρ σ (st :: rest) (.ret v σ₁) :=
  fun g as s Q E I K => wpC.cons (h g as s _ E I fun g' as' ρ' s' y t x I' r => K g' as' ρ' s' y t x I' r)

theorem ExC1.drop {st : Stmt} {tl : List Cell} (h : ExC1 c ρ σ st (.next ρ' (σ₁ ++ tl))) (hl : σ.length ≤ σ₁.length) (hρ : ρ'.all (fun p => p.2.low σ₁.length) = true) (hσ : σ₁.all (Cell.low σ₁.length) = true) : ExC1 c ρ σ st (.next ρ' σ₁) :=
  fun g as s Q E I K => h g as s Q E I fun g' as' s' t x I' => by
    obtain ⟨as₂, r, rfl, hlen, J⟩ := I'.cut hρ hσ
    exact K g' as₂ s' t (ext_of_cut x rfl (by rw [hlen, I.len]; exact hl)) J

/-! expressions -/
theorem wpC.callWith {P : Heap → Prop} {M : Model} {A : Around} {E : Value → Shared → Prop} {s : Shared} {pos : Pos} {f : Value} {first : List Value} {Q : Value → Shared → Prop} {args : List (Bool × Sem Value)} {keywords : List (Option PySem.Str × Sem Value)} (hplain : (args.any (·.1) || keywords.any (·.1.isNone)) = false)
    (hk : ∀ h, P h → ∃ k, (k = Keeper.frame ∨ k = Keeper.machine ∨ k = Keeper.boundFrame) ∧ Looks M h (keeperOf f) k)
    (h : wpAny M A (evalArgs f true args keywords) (fun a s₁ => P s₁.heap ∧ wpC M A (PySem.call f (first ++ a.pos) a.kw) Q E s₁) E s) : wpC M A (PySem.callWith pos f first args keywords) Q E s := by
  unfold PySem.callWith
  refine wpC.bindA (wpAny_holding (wpAny_mono h (fun a s₁ h₁ => ?_) fun _ _ x => x))
  refine wpC.bindA (wpAny_standAt ?_)
  obtain ⟨k, hk', L⟩ := hk _ h₁.1
  simp only [hplain]
  refine wpC.bindA (L.here ?_)
  have tail : ∀ {t : Sem Value}, wpC M A t Q E s₁ → wpC M A (t >>= fun r => PySem.holding [r] point >>= fun _ => Pure.pure r) Q E s₁ :=
    fun ht => wpC.bind (wpC.mono ht (fun r s₂ hr => wpC.bindA (wpAny_holding (wpAny_point (wpC.pure hr)))) fun _ _ x => x)
  have marked (mk : Value) : wpC M A (callMarked mk f (first ++ a.pos) a.kw) Q E s₁ := by unfold callMarked; exact wpC.keep h₁.2
  rcases hk' with rfl | rfl | rfl <;> dsimp only <;> first | exact tail h₁.2 | (split <;> first | exact tail h₁.2 | exact tail (marked _))

theorem EvC.call {x : PySem.Str} {np pos : Pos} {e : PySem.Expr} {es : List PySem.Expr} {ks : List Keyword} {f : V} {fv : Value} {vs us : List V} (O : c.Ok) (hf : Ev c ρ σ (.Name x np) (.val f σ)) (hr : ∀ as y, Rep as f y → y = fv) (hk : Keep c fv)
    (he : Evs c ρ σ pos (e :: es) vs σ₁) (hks : Kws c ρ σ₁ pos ks us σ₂) (ho : ClC c σ₂ fv vs ((backToKw pos (keywordEach ks c.env)).filterMap (·.1)) us o)
    (hn : starEach (e :: es) c.env = (false, eval e c.env) :: starEach es c.env := by rfl)
    (hp : ((backTo pos (starEach (e :: es) c.env)).any (·.1) || (backToKw pos (keywordEach ks c.env)).any (·.1.isNone)) = false := by rfl)
    (hall : (backToKw pos (keywordEach ks c.env)).all (·.1.isSome) = true := by rfl) : EvC c ρ σ (.Call (.Name x np) (e :: es) ks pos) o :=
  fun g as s I Q E K => by
    show wpC _ _ (do PySem.callWith pos (← eval (.Name x np) c.env) [] (backTo pos (starEach (e :: es) c.env)) (backToKw pos (keywordEach ks c.env))) Q E s
    refine wpC.bindA (hf.val I fun g₁ as₁ s₁ a t₁ x₁ I₁ ra => ?_)
    obtain rfl := hr _ _ ra
    refine wpC.callWith (first := []) (P := fun h => (hd.heap_39 c.w.params).In h) hp hk (evalArgs_kw2 hall (he g₁ as₁ s₁ _ E I₁ ?_) hn)
    exact fun g₂ as₂ s₂ xs t₂ x₂ I₂ r₂ => hks g₂ as₂ s₂ _ E I₂ fun g₃ as₃ s₃ ys t₃ x₃ I₃ r₃ => by
      obtain ⟨m, led, F, N⟩ := I₃.fr
      exact ⟨(I₃.X O).keeps F.keep, ho ρ g₃ as₃ s₃ xs ys I₃ (r₂.ext x₃) r₃ Q E (K.mono ((t₁.trans t₂).trans t₃) ((x₁.trans x₂).trans x₃))⟩

/-! tests -/
theorem TstC.of {e : PySem.Expr} {v : V} {b : Bool} (h : EvC c ρ σ e (.val v σ₁)) (ht : Tru c σ₁ v b) (he : ∀ (env : Env) (whole : Sem Value), isTrue e env whole = (do let v ← whole; standAt e.pos; PySem.holding [v] (truthy v)) := by intro _ _; rfl) : TstC c ρ σ e b σ₁ :=
  fun g as s Q E I k => by
    rw [he]
    refine wpC.bind (h g as s I _ E fun g₁ as₁ s₁ a t₁ x₁ I₁ ra => ?_)
    exact wpC.bindA (wpAny_standAt (wpC.any (wpAny_holding (ht ρ g₁ as₁ s₁ a Q E I₁ ra fun s₂ I₂ => k g₁ as₁ s₂ t₁ x₁ I₂))))
theorem TstC.cmp {l r : PySem.Expr} {op : CmpOp} {pos : Pos} {v u : V} {b : Bool} (hl : EvC c ρ σ l (.val v σ₁)) (hr : Ev c ρ σ₁ r (.val u σ₂)) (ho : Op2 c σ₂ v u (compareOp op) (.val (.bool b) σ₃)) (hm : behindInMarks op r = false := by with_unfolding_all rfl) :
    TstC c ρ σ (.Compare l [op] [r] pos) b σ₃ :=
  fun g as s Q E I k => by
    intro Γ p hΓ d bb
    simp only [isTrue_Compare1, markedBehindIn_of_false hm, Sem.wp_bind', Sem.wp_holding, Sem.wp_cmd_standAt, Sem.wp_operate]
    refine hl g as s I (fun a s₁ => wpAny (model PR c.w) c.A (eval r c.env) (fun b' s₂ => wpAny (model PR c.w) c.A (compareOp op a b') (fun cc s₃ => wpAny (model PR c.w) c.A (truthy cc) Q E s₃) E s₂) E s₁) E (fun g₁ as₁ s₁ a t₁ x₁ I₁ ra => hr.val I₁ fun g₂ as₂ s₂ d t₂ x₂ I₂ rb => ho ρ g₂ as₂ s₂ a d I₂ (ra.ext x₂) rb _ E fun g₃ as₃ s₃ y t₃ x₃ I₃ ry => by
      cases ry
      exact wpAny_truthy_bool (k g₃ as₃ s₃ ((t₁.trans t₂).trans t₃) ((x₁.trans x₂).trans x₃) I₃)) Γ p hΓ d bb |> fun z => Sem.wp_mono _ Γ _ (fun a p₁ s₁ h₁ => ?_) (fun _ _ _ h' => h') _ _ z
    exact Sem.wp_mono _ Γ _ (fun b _ s₂ h₂ => Sem.wp_mono _ Γ _ (fun c p₃ s₃ h₃ => h₃ Γ p₃ hΓ) (fun _ _ _ h' => h') _ _ (h₂ Γ _ hΓ)) (fun _ _ _ h' => h') _ _ (h₁ Γ p₁ hΓ)
theorem TstC.not {e : PySem.Expr} {pos : Pos} {b : Bool} (h : TstC c ρ σ e b σ₁) : TstC c ρ σ (.UnaryOp .Not e pos) (!b) σ₁ :=
  fun g as s Q E I k => by
    rw [arm_isTrue_UnaryOp]
    exact wpC.bind (h g as s _ E I fun g₁ as₁ s₁ t₁ x₁ I₁ => wpC.pure (k g₁ as₁ s₁ t₁ x₁ I₁))
def TstsC (c : Cx) (ρ : Loc) (σ : List Cell) (es : List PySem.Expr) (σ' : List Cell) : Prop :=
  ∀ g as s (Q : Bool → Shared → Prop) E, Inv c g as ρ σ s → (∀ g' as' s', Tn c g g' → Ext as as' → Inv c g' as' ρ σ' s' → Q false s') → wpC (model PR c.w) c.A (allTrue .Or es c.env) Q E s
theorem TstsC.nil : TstsC c ρ σ [] σ := fun g as s Q E I k => wpC.pure (k g as s .refl .refl I)
theorem TstsC.cons {e : PySem.Expr} {r : List PySem.Expr} (h : TstC c ρ σ e false σ₁) (q : TstsC c ρ σ₁ r σ₂) : TstsC c ρ σ (e :: r) σ₂ :=
  fun g as s Q E I k => by
    show wpC _ _ (do match BoolOp.Or, ← isTrue e c.env (eval e c.env) with | .And, false => Pure.pure false | .Or, true => Pure.pure true | _, _ => allTrue .Or r c.env) Q E s
    exact wpC.bind (h g as s _ E I fun g₁ as₁ s₁ t₁ x₁ I₁ => q g₁ as₁ s₁ Q E I₁ fun g₂ as₂ s₂ t₂ x₂ I₂ => k g₂ as₂ s₂ (t₁.trans t₂) (x₁.trans x₂) I₂)
theorem TstC.or {es : List PySem.Expr} {pos : Pos} (h : TstsC c ρ σ es σ₁) : TstC c ρ σ (.BoolOp .Or es pos) false σ₁ :=
  fun g as s Q E I k => by rw [arm_isTrue_BoolOp]; exact h g as s Q E I k

/-! statements -/
theorem ExC1.ifT {t : PySem.Expr} {body els : List Stmt} {pos : Pos} {o : Out} (h : TstC c ρ σ t true σ₁) (k : ExC c ρ σ₁ body o) : ExC1 c ρ σ (.If t body els pos) o :=
  fun g as s Q E I K => by
    rw [exec_If]
    exact wpC.bindA (wpAny_standAt (wpC.bind (h g as s _ E I fun g₁ as₁ s₁ t₁ x₁ I₁ => k g₁ as₁ s₁ Q E I₁ (K.mono t₁ x₁))))
theorem ExC1.ifF {t : PySem.Expr} {body els : List Stmt} {pos : Pos} {o : Out} (h : TstC c ρ σ t false σ₁) (k : ExC c ρ σ₁ els o) : ExC1 c ρ σ (.If t body els pos) o :=
  fun g as s Q E I K => by
    rw [exec_If]
    exact wpC.bindA (wpAny_standAt (wpC.bind (h g as s _ E I fun g₁ as₁ s₁ t₁ x₁ I₁ => k g₁ as₁ s₁ Q E I₁ (K.mono t₁ x₁))))
theorem ExC1.ret {e : PySem.Expr} {pos : Pos} {v : V} (h : EvC c ρ σ e (.val v σ₁)) : ExC1 c ρ σ (.Return (some e) pos) (.ret v σ₁) :=
  fun g as s Q E I K => by
    rw [exec_Return_some]
    exact wpC.bindA (wpAny_standAt (wpC.bind (h g as s I _ E fun g₁ as₁ s₁ a t₁ x₁ I₁ ra => wpC.pure (K g₁ as₁ ρ s₁ a t₁ x₁ I₁ ra))))
theorem ExC1.aug {x : PySem.Str} {px pos : Pos} {op : Operator} {e : PySem.Expr} {v u y : V} (hv : ρ.lookup x = some v) (h : EvC c ρ σ e (.val u σ₁)) (ho : Op2 c σ₁ v u (inplaceOp op) (.val y σ₂)) (O : c.Ok)
    (hl : c.scope.names.lookup x = some .local) : ExC1 c ρ σ (.AugAssign (.Name x px) op e pos) (.next (setL x y ρ) σ₂) :=
  fun g as s Q E I K => by
    obtain ⟨m, val, F, em, r⟩ := I.get hv
    intro Γ p hΓ d bb
    simp only [exec_AugAssign_Name, Sem.wp_bind', Sem.wp_holding, Sem.wp_cmd_standAt, Sem.wp_operate, Sem.wp_bindName, Sem.wp_pure']
    refine (wpAny_mono (ldn (Q := fun old s₁ => old = val ∧ s₁ = s) F em ⟨rfl, rfl⟩ O.hk hl) (fun _ _ h => h) fun _ _ h => h : wpAny (model PR c.w) c.A (loadName c.env x) _ E s) Γ _ hΓ |> fun z => Sem.wp_mono _ Γ _ (fun old p₁ s₁ h₁ => ?_) (fun _ _ _ h' => h') _ _ z
    obtain ⟨rfl, rfl⟩ := h₁
    refine h g as _ I (fun a s₁ => wpAny (model PR c.w) c.A (inplaceOp op old a) (fun b s₂ => wpAny (model PR c.w) c.A (storeName c.env x b) (fun _ => Q .next) E s₂) E s₁) E (fun g₁ as₁ s₁ a t₁ x₁ I₁ ra => ho ρ g₁ as₁ s₁ old a I₁ (r.ext x₁) ra _ E fun g₂ as₂ s₂ b t₂ x₂ I₂ rb =>
      I₂.store O rb hl fun s₃ I₃ => K g₂ as₂ s₃ (t₁.trans t₂) (x₁.trans x₂) I₃) Γ p₁ hΓ d bb |> fun z => Sem.wp_mono _ Γ _ (fun v _ s₂ h₂ => ?_) (fun _ _ _ h' => h') _ _ z
    exact Sem.wp_mono _ Γ _ (fun r _ s₃ h₃ => h₃ Γ _ hΓ) (fun _ _ _ h' => h') _ _ (h₂ Γ _ hΓ)
end
end Mine

/-! C2 -/
namespace Mine
namespace BA
theorem plainAttrs : PlainAttrs "bytearray" :=
  ⟨⟨"bytearray.__getattribute__", by rw [typeLookup_type, builtinLookup_eq_fast]; kernel_rfl, by decide +kernel⟩, by rw [typeLookup_type, builtinLookup_eq_fast]; kernel_rfl⟩
theorem slot_append : Slot "bytearray" "append" "bytearray.append" :=
  .of (owner := "bytearray") (n := "append") (by rw [typeLookup_type, builtinLookup_eq_fast]; kernel_rfl) (by decide +kernel) (by decide +kernel) (by decide +kernel)
    (by first | exact .inl (by decide +kernel) | exact .inr (by decide +kernel)) (by rw [isSubtype_type]; kernel_rfl)
theorem type_append : typeOf (.builtin "bytearray.append") = pure (.type "method_descriptor") := by show builtinType _ = _; rw [builtinType_eq_fast]; kernel_rfl
theorem entry_append : entryFor table "bytearray.append" = some Builtin.«bytearray.append» := entryFor_of_tree (by kernel_rfl)
theorem args_append (a b : Value) : argsOk "bytearray.append" ⟨[a, b], []⟩ := by unfold argsOk; kernel_rfl
theorem slot_reverse : Slot "bytearray" "reverse" "bytearray.reverse" :=
  .of (owner := "bytearray") (n := "reverse") (by rw [typeLookup_type, builtinLookup_eq_fast]; kernel_rfl) (by decide +kernel) (by decide +kernel) (by decide +kernel)
    (by first | exact .inl (by decide +kernel) | exact .inr (by decide +kernel)) (by rw [isSubtype_type]; kernel_rfl)
theorem type_reverse : typeOf (.builtin "bytearray.reverse") = pure (.type "method_descriptor") := by show builtinType _ = _; rw [builtinType_eq_fast]; kernel_rfl
theorem entry_reverse : entryFor table "bytearray.reverse" = some Builtin.«bytearray.reverse» := entryFor_of_tree (by kernel_rfl)
theorem args_reverse (a : Value) : argsOk "bytearray.reverse" ⟨[a], []⟩ := by unfold argsOk; kernel_rfl
theorem slot_init : Slot "bytearray" "__init__" "bytearray.__init__" :=
  .of (owner := "bytearray") (n := "__init__") (by rw [typeLookup_type, builtinLookup_eq_fast]; kernel_rfl) (by decide +kernel) (by decide +kernel) (by decide +kernel)
    (by first | exact .inl (by decide +kernel) | exact .inr (by decide +kernel)) (by rw [isSubtype_type]; kernel_rfl)
theorem entry_init : entryFor table "bytearray.__init__" = some Builtin.«bytearray.__init__» := entryFor_of_tree (by kernel_rfl)
theorem args_init (a : Value) : argsOk "bytearray.__init__" ⟨[a], []⟩ := by unfold argsOk; kernel_rfl
theorem mro : mroOf (.type "bytearray") = pure [.type "bytearray", .type "object"] := by rw [mroOf_type]; kernel_rfl
theorem lookup_new : typeLookup (.type "bytearray") "__new__" = pure (some (.builtin "bytearray.__new__")) := by rw [typeLookup_type, builtinLookup_eq_fast]; kernel_rfl
theorem made : Bind.madeBy (.type "bytearray") = pure (some "bytearray.__new__") := madeBy_type mro lookup_new (by decide +kernel)
theorem typeCall : checkTypeCall "bytearray" ⟨[], []⟩ = pure () := by kernel_rfl
theorem newCall : checkBuiltinCall "bytearray.__new__" ⟨[.type "bytearray"], []⟩ = pure () := by kernel_rfl
theorem entry_new : entryFor table "bytearray.__new__" = some Builtin.«list.__new__» :=
  entryFor_alias (id' := "list.__new__") (by rw [fastTable_eq_tree]; kernel_rfl) (by decide +kernel) (by decide +kernel) (by rw [fastTable_eq_tree]; kernel_rfl)
theorem plain_new : plainId "bytearray.__new__" = true := by decide +kernel
theorem sub_self : isSubtype (.type "bytearray") (.type "bytearray") = pure true := by rw [isSubtype_type]; kernel_rfl
theorem owner_new : ("bytearray.__new__".splitOn ".__new__").headD "" = "bytearray" := by simp +decide [String.splitOn, String.splitOnAux]
end BA
section
variable {c : Cx} {ρ ρ' : Loc} {σ σ₁ σ₂ σ₃ σ₄ : List Cell} {o : Res}

theorem guards_none : ∀ {l : List (Code × Pos)}, guardsOf l = [] → ∀ x ∈ l, x.1.isGuard = false
  | [], _, x, hx => by cases hx
  | (cd, p) :: r, h, x, hx => by
    rw [guardsOf_cons] at h
    obtain ⟨h1, h2⟩ := List.append_eq_nil_iff.mp h
    rcases List.mem_cons.mp hx with rfl | hx
    · unfold Code.guards at h1
      cases hg : cd.isGuard with
      | false => rfl
      | true => rw [hg] at h1; simp at h1
    · exact guards_none h2 x hx

theorem wpC.exported {M : Model} {A : Around} {E : Value → Shared → Prop} {s : Shared} {v : Value} {Q : Bool → Shared → Prop} (hg : A.guards = some []) (h : Q false s) : wpC M A (Builtin.Bytes.exported v) Q E s := fun Γ p hΓ d b => by
  have hgs : guardsOf ((Γ.code, p) :: Γ.below) = [] := by rw [guardsOf_cons]; exact hΓ.2.2.2.1 [] hg
  have hall : ∀ x ∈ (Γ.code, p) :: Γ.below, x.1.isGuard = false ∧ holdsDec x.1 = false := fun x hx => ⟨guards_none hgs x hx, CB.enter d b x hx⟩
  unfold Builtin.Bytes.exported
  show Q (List.any ((Γ.code, p) :: Γ.below) _) s
  rw [List.any_eq_false.mpr]
  · exact h
  · intro x hx
    obtain ⟨h1, h2⟩ := hall x hx
    obtain ⟨cd, q⟩ := x
    dsimp only at h1 h2 ⊢
    split
    · rename_i heq
      cases heq
      exact absurd h1 (by simp only [Code.isGuard]; decide +kernel)
    · rename_i heq
      cases heq
      exact absurd h1 (by simp only [Code.isGuard]; decide +kernel)
    · rename_i heq
      cases heq
      exact absurd h1 (by simp only [Code.isGuard]; decide +kernel)
    · rename_i heq
      cases heq
      exact absurd h1 (by simp only [Code.isGuard]; decide +kernel)
    · rename_i heq
      cases heq
      exact absurd h1 (by simp only [Code.isGuard]; decide +kernel)
    · rename_i heq
      cases heq
      simp only [holdsDec] at h2
      rw [h2]
      simp
    · simp

theorem wpC.noResize {M : Model} {A : Around} {E : Value → Shared → Prop} {s : Shared} {a : Nat} {b : Array UInt8} {Q : Unit → Shared → Prop} (hg : A.guards = some []) (ho : s.heap.get? a = some { cls := .type "bytearray", data := .bytearray b }) (h : Q () s) : wpC M A (Builtin.Bytes.checkResize (.ref a)) Q E s := by
  unfold Builtin.Bytes.checkResize
  refine wpC.bind ?_
  unfold orM
  refine wpC.bind (wpC.exported hg ?_)
  refine wpC.any ?_
  dsimp only [toBool]
  refine wpAny_bind ?_
  show wpAny M A (load a >>= fun ob => _) _ E s
  refine wpAny_bind (wpAny_load ho ?_)
  refine wpAny_pure (wpAny_pure ?_)
  rw [if_neg (by decide)]
  exact wpC.pure h

/-- the bytearray is written -/
theorem ba_write {M : Model} {A : Around} {E : Value → Shared → Prop} {s : Shared} {a : Nat} {b : Array UInt8} {f : Array UInt8 → Array UInt8} {Q : Unit → Shared → Prop} (ho : s.heap.get? a = some { cls := .type "bytearray", data := .bytearray b }) (hz : (f b).size ≤ 16777216)
    (h : ∀ h', (∀ x o, x ≠ a → s.heap.get? x = some o → h'.get? x = some o) → h'.get? a = some { cls := .type "bytearray", data := .bytearray (f b) } → Q () { s with heap := h' }) : wpAny M A (Builtin.Bytes.write (.ref a) f) Q E s := by
  show wpAny M A (updateBytearray a f) Q E s
  unfold updateBytearray
  refine wpAny_bind (wpAny_load ho ?_)
  show wpAny _ _ (update a (Obj.mapBytearray f) >>= fun _ => lookBehind a) _ _ _
  refine wpAny_bind (wpAny_update ho ?_)
  have hS : (s.heap.update a (Obj.mapBytearray f)).get? a = some { cls := .type "bytearray", data := .bytearray (f b) } := Heap.get?_update_self (Obj.mapBytearray f) ho rfl
  refine wpAny_lookBehind hS ?_ (h _ (fun x o hx e => (Heap.get?_update_other _ _ hx.symm).trans e) hS)
  show (if (f b).size > sizeLine then some "bytearray:memory" else none) = none
  rw [if_neg]
  rw [sizeLine_eq]
  omega

theorem Meth.barr {i : Nat} {b : List UInt8} {name : PySem.Str} {id : String} (h : σ[i]? = some (.barr b)) (slot : Slot "bytearray" name id) (ty : typeOf (.builtin id) = pure (.type "method_descriptor")) : Meth c σ (.ref i) name id := fun ρ g as s a pl Q E I r k => by
  obtain ⟨a', ob, rfl, ho, hc⟩ := I.cell h r
  cases hc
  exact getMethod_builtin ⟨_, ho, rfl⟩ BA.plainAttrs slot ty (fun x e => by cases e; exact ⟨_, ho, rfl⟩) k

theorem codeC.builtin {prog : Program} {w : World} {A : Around} {R : Result → Shared → Prop} {s : Shared} {id : String} {args : Args} {b : Builtin} (hb : entryFor table id = some b) (hd : Builtin.Bytes.decodersThatHold.contains id = false)
    (h : wpC (model prog w) (A.under (.builtin id args)) (b args) (fun fin s' => match fin with | .done f => R (.ok f) s' | .again c' => c'.quiet = true ∧ codeC (model prog w) A c' R s') (fun e s' => R (.error e) s') s) : codeC (model prog w) A (.builtin id args) R s := by
  refine codeC.tree hd ?_
  show wpC _ _ (match entryFor table id with | some b => b args | none => unsupported ((withoutEnding? id "#data").getD id)) _ _ s
  rw [hb]
  exact h
theorem wpC.call_entry {prog : Program} {w : World} {A : Around} {E : Value → Shared → Prop} {s : Shared} {T : String} {name : PySem.Str} {id : String} {b : Builtin} {self : Value} {rest : List Value} {Q : Value → Shared → Prop} (h : Slot T name id) (hT : s.TypeIs self T)
    (hb : entryFor table id = some b) (hd : Builtin.Bytes.decodersThatHold.contains id = false) (ha : argsOk id ⟨self :: rest, []⟩)
    (hc : wpC (model prog w) A.in1 (b ⟨self :: rest, []⟩) (fun fin s' => ∃ v, fin = .done (.ret v) ∧ Q v s') E s) : wpC (model prog w) A (PySem.call (.builtin id) (self :: rest)) Q E s := by
  refine wpC.call (codeC.tree rfl ?_)
  show wpC _ A.in1 (do checkBuiltinCall id ⟨self :: rest, []⟩; again (.builtin id ⟨self :: rest, []⟩)) _ _ s
  refine wpC.bindA (h.check _ _ _ _ _ _ _ _ hT ha ?_)
  refine wpC.pure ⟨plainId_quiet h.plain _, codeC.builtin hb hd ?_⟩
  rw [Around.under_plainId h.plain _]
  refine wpC.mono hc (fun fin s' h' => ?_) fun _ _ h' => h'
  obtain ⟨v, rfl, hv⟩ := h'
  exact hv

theorem Inv.barrTurn {g : Heap} {as : List Nat} {s : Shared} {i a : Nat} {b : List UInt8} {h' : Heap} {k : Nat} (I : Inv c g as ρ σ s) (ha : as[i]? = some a) (hk : c.k ≤ i) (hs : ∀ x o, x ≠ a → s.heap.get? x = some o → h'.get? x = some o) (ho : h'.get? a = some { cls := .type "bytearray", data := .bytearray b.toArray }) :
    Inv c g as ρ (σ.set i (.barr b)) { s with heap := h', toks := k } := I.turn ha hk hs ho (.barr _)

theorem guardsA (O : c.Ok) : c.A.guards = some [] := O.hg
theorem ClC.append {i : Nat} {b : List UInt8} {x : Int} (O : c.Ok) (h : σ[i]? = some (.barr b)) (hk : c.k ≤ i) (h0 : 0 ≤ x) (h1 : x < 256) (hz : b.length < 16777216) :
    ClC c σ (.builtin "bytearray.append") [.ref i, .int x] [] [] (.val .none (σ.set i (.barr (b ++ [x.toNat.toUInt8])))) := fun ρ g as s xs ys I r1 r2 Q E K => by
  cases r1 with
  | cons ra r1 =>
  cases r1 with
  | cons rb r1 =>
  cases r1; cases r2; cases rb with
  | int _ u =>
  obtain ⟨a, ob, rfl, ho, hc⟩ := I.cell h ra
  cases hc
  cases ra with
  | ref _ _ ha =>
  refine wpC.call_entry BA.slot_append ⟨_, ho, rfl⟩ BA.entry_append (by decide +kernel) (BA.args_append _ _) ?_
  unfold Builtin.«bytearray.append»
  refine wpC.bindA (wpAny_of_eq (a := (.ref a, .int x u)) rfl ?_)
  dsimp only
  refine wpC.bindA (wpAny_of_eq (a := x.toNat.toUInt8) ?_ ?_)
  · show (if (decide (x < 0) || decide (x ≥ 256)) = true then _ else _) = _
    rw [if_neg (by simp; omega)]
  refine wpC.bind (wpC.noResize (b := b.toArray) (guardsA O) ho ?_)
  refine wpC.any (wpAny_bind (ba_write ho (by simp; omega) fun h' hs ho' => wpAny_pure ⟨_, rfl, ?_⟩))
  refine K g as _ _ .refl .refl (I.barrTurn (b := b ++ [x.toNat.toUInt8]) (k := s.toks) ha hk hs ?_) .none
  rw [ho']
  simp
theorem Cl.reverse {i : Nat} {b : List UInt8} (h : σ[i]? = some (.barr b)) (hk : c.k ≤ i) (hz : b.length < 16777216) :
    Cl c σ (.builtin "bytearray.reverse") [.ref i] [] [] (.val .none (σ.set i (.barr b.reverse))) := fun ρ g as s xs ys I r1 r2 Q E K => by
  cases r1 with
  | cons ra r1 =>
  cases r1; cases r2
  obtain ⟨a, ob, rfl, ho, hc⟩ := I.cell h ra
  cases hc
  cases ra with
  | ref _ _ ha =>
  refine wpAny_call_entry BA.slot_reverse ⟨_, ho, rfl⟩ BA.entry_reverse ?_ (BA.args_reverse _)
  unfold Builtin.«bytearray.reverse»
  refine wpAny_bind (wpAny_of_eq (a := .ref a) rfl ?_)
  refine wpAny_bind (ba_write ho (by simp; omega) fun h' hs ho' => wpAny_pure ⟨_, rfl, ?_⟩)
  refine K g as _ _ .refl .refl (I.barrTurn (b := b.reverse) (k := s.toks) ha hk hs ?_) .none
  rw [ho']
  simp

/-! bytearray() -/
theorem ba_new {prog : Program} {w : World} {A : Around} {E : Value → Shared → Prop} {s : Shared} {Q : Value → Shared → Prop} (h : Q (.ref s.heap.objs.size) { s with heap := s.heap.push { cls := .type "bytearray", data := .bytearray #[] } }) :
    wpAny (model prog w) A (PySem.call (.builtin "bytearray.__new__") [.type "bytearray"]) Q E s := by
  refine wpAny_call (codeAny_of_tree ?_)
  show wpAny _ A.in1 (do checkBuiltinCall "bytearray.__new__" ⟨[.type "bytearray"], []⟩; again (.builtin "bytearray.__new__" ⟨[.type "bytearray"], []⟩)) _ _ s
  refine wpAny_bind (wpAny_of_eq BA.newCall (wpAny_pure ⟨plainId_quiet BA.plain_new _, codeAny_builtin_stack BA.entry_new rfl fun p st => ?_⟩))
  rw [Around.under_plainId BA.plain_new _]
  dsimp only
  have hown := BA.owner_new
  simp only [hown]
  refine wpAny_bind (wpAny_of_eq (a := true) rfl ?_)
  refine if_not rfl ?_
  refine wpAny_bind (wpAny_of_eq (a := true) BA.sub_self ?_)
  refine if_not rfl ?_
  refine wpAny_bind (wpAny_of_eq (a := .bytearray #[]) rfl ?_)
  refine if_so (by decide +kernel) ?_
  exact wpAny_bind (wpAny_newObj_type (wpAny_pure h) (Nat.zero_le _))

theorem ba_own {M : Model} {A : Around} {E : Value → Shared → Prop} {s : Shared} {a : Nat} {ob : Obj} {name id : String} {Q : Bool → Shared → Prop} (hl : typeLookup (.type "bytearray") (name : PySem.Str) = pure (some (.builtin id))) (he : id.endsWith ("." ++ name) = true) (hd : id.dropRight (name.length + 1) = "bytearray")
    (ho : s.heap.get? a = some ob) (hc : ob.cls = .type "bytearray") (h : Q true s) : wpAny M A (Builtin.Bytes.slotIsOwn (.ref a) name) Q E s := by
  have hT : s.TypeIs (.ref a) "bytearray" := ⟨_, ho, hc⟩
  unfold Builtin.Bytes.slotIsOwn
  refine wpAny_bind (wpAny_specialOf hT hl ?_)
  dsimp only
  rw [he, hd]
  exact wpAny_isInstance hT BA.sub_self h
theorem ba_release {M : Model} {A : Around} {E : Value → Shared → Prop} {s : Shared} {a : Nat} {ob : Obj} {Q : Bool → Shared → Prop} (ho : s.heap.get? a = some ob) (hc : ob.cls = .type "bytearray") (h : Q false s) : wpAny M A (Builtin.Bytes.ownRelease (.ref a)) Q E s := by
  unfold Builtin.Bytes.ownRelease
  refine wpAny_bind (ba_own (id := "bytearray.__release_buffer__") (by rw [typeLookup_type, builtinLookup_eq_fast]; kernel_rfl) (by decide +kernel) (by decide +kernel) ho hc ?_)
  exact wpAny_pure h
theorem ba_init {prog : Program} {w : World} {A : Around} {E : Value → Shared → Prop} {s : Shared} {a : Nat} {Q : Value → Shared → Prop} (hg : A.guards = some []) (ho : s.heap.get? a = some { cls := .type "bytearray", data := .bytearray #[] })
    (h : ∀ h', (∀ x o, x ≠ a → s.heap.get? x = some o → h'.get? x = some o) → h'.get? a = some { cls := .type "bytearray", data := .bytearray #[] } → Q .none { s with heap := h' }) :
    wpC (model prog w) A (PySem.call (.builtin "bytearray.__init__") [.ref a]) Q E s := by
  refine wpC.call_entry BA.slot_init ⟨_, ho, rfl⟩ BA.entry_init (by decide +kernel) (BA.args_init _) ?_
  unfold Builtin.«bytearray.__init__»
  dsimp only
  refine wpC.bindA (ba_release ho rfl ?_)
  rw [if_neg Bool.false_ne_true]
  refine wpC.bindA (wpAny_of_eq (a := [none, none, none]) (by kernel_rfl) ?_)
  dsimp only
  refine wpC.bindA (wpAny_of_eq (a := ()) (by kernel_rfl) ?_)
  refine wpC.bindA (wpAny_of_eq (a := ()) (by kernel_rfl) ?_)
  refine wpC.bind ?_
  unfold orM
  refine wpC.bind (wpC.exported hg ?_)
  refine wpC.any ?_
  dsimp only [toBool]
  refine wpAny_bind ?_
  show wpAny _ _ (load a >>= fun ob => _) _ E s
  refine wpAny_bind (wpAny_load ho ?_)
  refine wpAny_pure (wpAny_pure ?_)
  rw [if_neg (by decide)]
  refine wpC.any (wpAny_bind (ba_write ho (Nat.zero_le _) fun h' hs ho' => ?_))
  exact wpAny_pure ⟨_, rfl, h h' hs ho'⟩
theorem ba_call {prog : Program} {w : World} {A : Around} {E : Value → Shared → Prop} {s : Shared} {Q : Value → Shared → Prop} (hg : A.guards = some [])
    (h : ∀ h', (∀ x o, s.heap.get? x = some o → h'.get? x = some o) → h'.get? s.heap.objs.size = some { cls := .type "bytearray", data := .bytearray #[] } → Q (.ref s.heap.objs.size) { s with heap := h' }) :
    wpC (model prog w) A (PySem.call (.type "bytearray") []) Q E s := by
  refine wpC.call (codeC.tree rfl ?_)
  show wpC _ _ (callAny (.type "bytearray") _) _ _ _
  refine wpC.pure ⟨Code.quiet_builtin _ (by decide +kernel), codeC.builtin F.entry_type_call (by decide +kernel) ?_⟩
  rw [Around.under_plain (weight_type_call_type "bytearray" [] []) rfl]
  unfold Builtin.«type.__call__»
  have h1 : (Value.type "bytearray" == Value.type "type") = false := by decide
  have h2 : ((Manifest.find? "bytearray").bind (·.mro.findSome? fun t => (Manifest.find? t).bind fun b => if b.noNew then some true else if b.attrs.any (·.1 == "__new__") then some false else none)).getD false = false := by decide +kernel
  simp only [h1, h2, Bool.false_eq_true, if_false]
  refine wpC.bindA (wpAny_of_eq (a := ()) BA.typeCall ?_)
  refine wpC.bindA (wpAny_of_eq BA.mro ?_)
  rw [if_neg (by simp)]
  refine wpC.bindA (wpAny_of_eq BA.made ?_)
  dsimp only
  refine wpC.bindA (wpAny_pure ?_)
  refine wpC.bindA (wpAny_holding (ba_new ?_))
  have hS : (s.heap.push { cls := .type "bytearray", data := .bytearray #[] }).get? s.heap.objs.size = some { cls := .type "bytearray", data := .bytearray #[] } := Heap.get?_push_size _ rfl
  refine wpC.bindA (wpAny_isInstance (T := "bytearray") (b := true) ⟨_, hS, rfl⟩ BA.sub_self ?_)
  rw [if_neg (by decide)]
  refine wpC.bind (wpC.holding ?_)
  unfold callSpecial?
  refine wpC.bindA (wpAny_specialOf (T := "bytearray") ⟨_, hS, rfl⟩ BA.slot_init.lookup ?_)
  simp only [BA.slot_init.bind]
  refine wpC.holding (wpC.bindA (wpAny_pure ?_))
  refine wpC.bind (wpC.mono (ba_init hg hS fun h' hs ho' => ?_) (fun v s' h' => wpC.pure h') fun _ _ h' => h')
  dsimp only
  rw [if_neg (by decide)]
  exact wpC.pure (h h' (fun x o e => hs x o (Nat.ne_of_lt (Heap.lt_size e)) (Heap.get?_push_of_some _ e)) ho')
end
end Mine

/-! C3 -/
namespace Mine
section
variable {c : Cx} {ρ ρ' : Loc} {σ σ₁ σ₂ σ₃ σ₄ : List Cell} {o : Res}

theorem ClC.bytearray (O : c.Ok) : ClC c σ (.type "bytearray") [] [] [] (.val (.ref σ.length) (σ ++ [.barr []])) := fun ρ g as s xs ys I r1 r2 Q E K => by
  cases r1; cases r2
  refine ba_call (guardsA O) fun h' hs ho => ?_
  have len := I.len
  have I₀ := I
  obtain ⟨B, D, sim, nd, off, m, led, F, N, e, l, t⟩ := I₀
  have J : Inv c g (as ++ [s.heap.objs.size]) ρ (σ ++ [.barr []]) { s with heap := h', toks := s.toks } := by
    have F' : Fr g c.L h' m := ⟨F.ns.keeps hs, fun b o q => hs _ _ (F.keep b o q), F.above⟩
    have hN : ∀ p ∈ c.fz ++ led, p.1 < s.heap.objs.size := fun p hp => Heap.lt_size (N p hp).1
    refine I.allocAt (ob := { cls := .type "bytearray", data := .bytearray #[] }) e l t F' (fun p hp => ?_) hN (.barr [])
    rcases List.mem_cons.mp hp with rfl | hp
    · obtain ⟨hL, hnone⟩ := (News.push F N { cls := .type "bytearray", data := .bytearray #[] } rfl _ (.head _)).2
      exact ⟨ho, hL, hnone⟩
    · exact ⟨hs _ _ (N p hp).1, (N p hp).2⟩
  exact K g _ _ _ .refl .one J (.ref _ _ (by rw [← len]; simp))

theorem EvC.call0 {x : PySem.Str} {np pos : Pos} {f : V} {fv : Value} (O : c.Ok) (hf : Ev c ρ σ (.Name x np) (.val f σ)) (hr : ∀ as y, Rep as f y → y = fv) (hk : Keep c fv) (ho : ClC c σ fv [] [] [] o) : EvC c ρ σ (.Call (.Name x np) [] [] pos) o :=
  fun g as s I Q E K => by
    show wpC _ _ (do PySem.callWith pos (← eval (.Name x np) c.env) [] (backTo pos (starEach [] c.env)) (backToKw pos (keywordEach [] c.env))) Q E s
    refine wpC.bindA (hf.val I fun g₁ as₁ s₁ a t₁ x₁ I₁ ra => ?_)
    obtain rfl := hr _ _ ra
    refine wpC.callWith (first := []) (P := fun h => (hd.heap_39 c.w.params).In h) rfl hk (evalArgs_kw2_nil rfl (kwAll_nil ?_))
    obtain ⟨m, led, F, N⟩ := I₁.fr
    exact ⟨(I₁.X O).keeps F.keep, ho ρ g₁ as₁ s₁ [] [] I₁ .nil .nil Q E (K.mono t₁ x₁)⟩

theorem EvC.meth {x : PySem.Expr} {name : PySem.Str} {apos pos : Pos} {e : PySem.Expr} {es : List PySem.Expr} {ks : List Keyword} {v : V} {id : String} {vs us : List V} {pl : Sem Bool} (O : c.Ok) (hv : Ev c ρ σ x (.val v σ₁)) (hm : Meth c σ₁ v name id)
    (he : Evs c ρ σ₁ pos (e :: es) vs σ₂) (hks : Kws c ρ σ₂ pos ks us σ₃) (ho : ClC c σ₃ (.builtin id) (v :: vs) ((backToKw pos (keywordEach ks c.env)).filterMap (·.1)) us o)
    (hq : eval (.Call (.Attribute x name apos) (e :: es) ks pos) c.env = (do
      let ov ← eval x c.env
      standAt apos.atName
      let (f, first) ← holding [ov] (getMethod ov name pl)
      callWith pos f first (backTo pos (starEach (e :: es) c.env)) (backToKw pos (keywordEach ks c.env))) := by rfl)
    (hn : starEach (e :: es) c.env = (false, eval e c.env) :: starEach es c.env := by rfl)
    (hp : ((backTo pos (starEach (e :: es) c.env)).any (·.1) || (backToKw pos (keywordEach ks c.env)).any (·.1.isNone)) = false := by rfl)
    (hall : (backToKw pos (keywordEach ks c.env)).all (·.1.isSome) = true := by rfl) : EvC c ρ σ (.Call (.Attribute x name apos) (e :: es) ks pos) o :=
  fun g as s I Q E K => by
    rw [hq]
    refine wpC.bindA (hv.val I fun g₁ as₁ s₁ a t₁ x₁ I₁ ra => ?_)
    refine wpC.bindA (wpAny_standAt ?_)
    refine wpC.bindA (wpAny_holding (hm ρ g₁ as₁ s₁ a pl _ E I₁ ra ?_))
    dsimp only
    refine wpC.callWith (first := [a]) (P := fun h => (hd.heap_39 c.w.params).In h) hp Keep.bi (evalArgs_kw2 hall (he g₁ as₁ s₁ _ E I₁ ?_) hn)
    exact fun g₂ as₂ s₂ xs t₂ x₂ I₂ r₂ => hks g₂ as₂ s₂ _ E I₂ fun g₃ as₃ s₃ ys t₃ x₃ I₃ r₃ => by
      obtain ⟨m, led, F, N⟩ := I₃.fr
      exact ⟨(I₃.X O).keeps F.keep, ho ρ g₃ as₃ s₃ (a :: xs) ys I₃ (.cons (ra.ext (x₂.trans x₃)) (r₂.ext x₃)) r₃ Q E (K.mono ((t₁.trans t₂).trans t₃) ((x₁.trans x₂).trans x₃))⟩

theorem ExC1.assign {x : PySem.Str} {px pos : Pos} {e : PySem.Expr} {v : V} (h : EvC c ρ σ e (.val v σ₁)) (O : c.Ok) (hl : c.scope.names.lookup x = some .local)
    (hs : swapsWith e (some (.Name x px)) pos.line c.env = pure false := by rfl) : ExC1 c ρ σ (.Assign [.Name x px] e pos) (.next (setL x v ρ) σ₁) :=
  fun g as s Q E I K => by
    intro Γ p hΓ d bb
    simp only [exec_Assign_Name c.env x px e pos hs, Sem.wp_bind', Sem.wp_cmd_standAt, Sem.wp_bindName, Sem.wp_pure']
    refine h g as s I (fun a s₁ => wpAny (model PR c.w) c.A (storeName c.env x a) (fun _ => Q .next) E s₁) E (fun g₁ as₁ s₁ a t₁ x₁ I₁ ra => I₁.store O ra hl fun s₂ I₂ => K g₁ as₁ s₂ t₁ x₁ I₂) Γ _ hΓ d bb |> fun z => Sem.wp_mono _ Γ _ (fun v _ s₁ h₁ => h₁ Γ _ hΓ) (fun _ _ _ h' => h') _ _ z
theorem ExC1.expr {e : PySem.Expr} {pos : Pos} {v : V} (h : EvC c ρ σ e (.val v σ₁)) (hp : v.plain = true) (O : c.Ok) (hs : swapsWith e none pos.line c.env = pure false := by rfl) : ExC1 c ρ σ (.Expr e pos) (.next ρ σ₁) :=
  fun g as s Q E I K => by
    have hi : interactive c.env = false := by
      show (c.scope.kind == .module && _) = false
      rw [O.hk]
      rfl
    rw [exec_Expr c.env e pos hi hs]
    refine wpC.bindA (wpAny_standAt (wpC.bind (h g as s I _ E fun g₁ as₁ s₁ a t₁ x₁ I₁ ra => ?_)))
    rw [dropValue_plain (ra.noref hp)]
    exact wpC.pure (K g₁ as₁ s₁ t₁ x₁ I₁)

/-! loops -/
theorem ExC1.while_ {test : PySem.Expr} {body : List Stmt} {pos : Pos} {σ' : List Cell} (n : Nat) (R : Nat → Loc) (S : Nat → List Cell) (h0 : R 0 = ρ) (h1 : S 0 = σ)
    (go : ∀ i, i < n → ∃ σt, TstC c (R i) (S i) test true σt ∧ ExC c (R i) σt body (.next (R (i + 1)) (S (i + 1)))) (fin : TstC c (R n) (S n) test false σ') :
    ExC1 c ρ σ (.While test body [] pos) (.next (R n) σ') := by
  subst h0 h1
  intro g as s Q E I K
  rw [exec_While]
  refine wpC.bindA (wpAny_standAt ?_)
  unfold runOwn
  refine wpC.onRaise (wpC.run ?_)
  refine codeC.loop rfl rfl (fun k s' => ∃ i g' as', i ≤ n ∧ k = n - i ∧ Tn c g g' ∧ Ext as as' ∧ Inv c g' as' (R i) (S i) s') ?_ n ⟨0, g, as, Nat.zero_le _, rfl, .refl, .refl, I⟩
  rintro k s' ⟨i, g', as', hi, rfl, t, x, I'⟩
  show wpC _ c.A ((whileTurn test body [] c.env).onRaise (fun x => do noteFrame x c.env; theTreesLotGoes x)) _ _ s'
  refine wpC.onRaise ?_
  simp only [whileTurn]
  by_cases hlt : i < n
  · obtain ⟨σt, ht, hb⟩ := go i hlt
    refine wpC.bind (ht g' as' s' _ _ I' fun g₁ as₁ s₁ t₁ x₁ I₁ => ?_)
    rw [if_pos rfl]
    refine wpC.bind (hb g₁ as₁ s₁ _ _ I₁ fun g₂ as₂ s₂ t₂ x₂ I₂ => ?_)
    exact wpC.pure (.inl ⟨rfl, n - (i + 1), by omega, i + 1, g₂, as₂, hlt, rfl, (t.trans t₁).trans t₂, (x.trans x₁).trans x₂, I₂⟩)
  · have : i = n := by omega
    subst this
    refine wpC.bind (fin g' as' s' _ _ I' fun g₁ as₁ s₁ t₁ x₁ I₁ => ?_)
    rw [if_neg (by decide)]
    exact wpC.any (wpAny_bind (wpAny_execs_nil (wpAny_pure (K g₁ as₁ s₁ (t.trans t₁) (x.trans x₁) I₁))))

theorem ExC1.for_ {y : PySem.Str} {px pos : Pos} {iter : PySem.Expr} {body : List Stmt} {v : V} (n : Nat) (R : Nat → Loc) (B : Nat → List Cell) (it : Nat → Cell) (vals : Nat → V) (O : c.Ok) (hl : c.scope.names.lookup y = some .local)
    (h0 : R 0 = ρ) (he : Ev c ρ σ iter (.val v (B 0))) (hi : Itr c (B 0) v (B 0).length (B 0 ++ [it 0])) (hlen : ∀ i, i ≤ n → (B i).length = (B 0).length) (hle : σ.length ≤ (B 0).length)
    (go : ∀ i, i < n → Nx c (B i ++ [it i]) (B 0).length (vals i) (B i ++ [it (i + 1)]) ∧ ExC c (setL y (vals i) (R i)) (B i ++ [it (i + 1)]) body (.next (R (i + 1)) (B (i + 1) ++ [it (i + 1)])))
    (fin : NxEnd c (B n) (it n)) (hρ : (R n).all (fun p => p.2.low (B 0).length) = true) (hσ : (B n).all (Cell.low (B 0).length) = true)
    (hs : ∀ x, foldedSetIterable iter c.env x = pure x := by intro _; rfl) :
    ExC1 c ρ σ (.For (.Name y px) iter body [] pos) (.next (R n) (B n)) := by
  subst h0
  intro g as s Q E I K
  rw [exec_For]
  refine wpC.bindA (wpAny_standAt (wpC.bindA (he.val I fun g₁ as₁ s₁ a t₁ x₁ I₁ ra => ?_)))
  refine wpC.bindA (wpAny_of_eq (hs a) ?_)
  refine wpC.bindA (wpAny_standAt ?_)
  refine wpC.bindA (wpAny_holding (hi _ g₁ as₁ s₁ a _ E I₁ ra fun as₂ s₂ j x₂ I₂ rj => ?_))
  unfold runOwn
  refine wpC.onRaise (wpC.run ?_)
  refine codeC.loop rfl rfl (fun k s' => ∃ i g' as', i ≤ n ∧ k = n - i ∧ Tn c g g' ∧ Ext as₂ as' ∧ Inv c g' as' (R i) (B i ++ [it i]) s') ?_ n ⟨0, g₁, as₂, Nat.zero_le _, rfl, t₁, .refl, I₂⟩
  rintro k s' ⟨i, g', as', hin, rfl, t, x, I'⟩
  show wpC _ c.A ((forTurn (.Name y px) j body [] c.env).onRaise (fun x => do noteFrame x c.env; theTreesLotGoes x)) _ _ s'
  refine wpC.onRaise ?_
  simp only [forTurn]
  refine wpC.bindA (wpAny_standAt ?_)
  by_cases hlt : i < n
  · obtain ⟨hnx, hb⟩ := go i hlt
    refine wpC.bindA (wpAny_onRaise (hnx _ g' as' s' j _ _ I' (rj.ext x) fun s₃ z I₃ rz => ?_))
    dsimp only
    refine wpC.bindA (wpAny_of_eq (a := ()) rfl ?_)
    refine wpC.bindA (wpAny_assign_Name (I₃.store O rz hl fun s₄ I₄ => ?_))
    refine wpC.bind (hb g' as' s₄ _ _ I₄ fun g₅ as₅ s₅ t₅ x₅ I₅ => ?_)
    exact wpC.pure (.inl ⟨rfl, n - (i + 1), by omega, i + 1, g₅, as₅, hlt, rfl, t.trans t₅, x.trans x₅, I₅⟩)
  · have : i = n := by omega
    subst this
    have hln := hlen i (Nat.le_refl _)
    refine wpC.bindA (wpAny_onRaise (fin _ g' as' s' j _ _ I' (by rw [hln]; exact rj.ext x) (by rw [hln]; exact hρ) (by rw [hln]; exact hσ) fun as₃ r s₃ e I₃ => ?_))
    dsimp only
    refine wpC.pure (.inr ⟨rfl, codeC.any (codeAny_block (wpAny_execs_nil ?_))⟩)
    exact K g' as₃ s₃ t (ext_of_cut ((x₁.trans x₂).trans x) e (by rw [I₃.len, hln, I.len]; exact hle)) I₃
end
end Mine

/-! C4 -/
namespace Mine

theorem codeC.func {prog : Program} {w : World} {A : Around} {R : Result → Shared → Prop} {s : Shared} {body : List Stmt} {env : Env}
    (h : ∀ E, wpC (model prog w) (A.deeper env) (execs body env) (fun f s' => R (.ok (.ret (match f with | .ret v => v | _ => .none))) s') E s) : codeC (model prog w) A (.func body env) R s := by
  refine codeC.tree rfl ?_
  show wpC _ (A.deeper env) (do point; match ← (execs body env).onRaise (leaving env) with | .ret v => ret v | _ => ret .none) _ _ s
  refine wpC.bindA (wpAny_point (wpC.bind (wpC.onRaise (wpC.mono (h _) (fun f s' h' => ?_) fun _ _ h' => h'))))
  cases f <;> exact wpC.pure h'
theorem codeC.def {prog : Program} {w : World} {A : Around} {R : Result → Shared → Prop} {s : Shared} {a : Addr} {o : Obj} {fd : FuncData} {body : List Stmt} {args : Args} {binds : List (PySem.Str × Value)}
    (hroom : A.depth < recursionLimit) (ho : s.heap.get? a = some o) (hdata : o.data = .func fd) (hlim : s.heap.NoLimit) (hcd : s.heap.CodeRec fd.code fd.qualname) (hbody : fd.body = .stmts body) (hbind : BindsTo s fd args binds)
    (hcell : ∀ x ∈ fd.scope.names, x.2 ≠ .cell) (hloc : ∀ x ∈ binds, fd.scope.names.lookup x.1 = some .local)
    (h : ∀ h₀, h₀.Ns s.heap.objs.size (fun x => binds.reverse.lookup x) → (∀ b o, s.heap.get? b = some o → h₀.get? b = some o) → ∀ E,
      wpC (model prog w) (A.deeper (callEnv fd s.heap.objs.size a)) (execs body (callEnv fd s.heap.objs.size a)) (fun f s' => R (.ok (.ret (match f with | .ret v => v | _ => .none))) s') E { s with heap := h₀, toks := s.toks + binds.length })
    (hco : fd.scope.isCoroutine = false) (hgen : fd.scope.isGenerator = false) (hk : fd.scope.kind = .function) : codeC (model prog w) A (.call (.ref a) args) R s := by
  refine codeC.tree rfl ?_
  show wpC _ A.in1 (callAny (.ref a) args) _ _ s
  simp only [callAny]
  refine wpC.bindA (wpAny_load ho ?_)
  obtain ⟨cc, oc, vs, tq, hc, hoc, hdc, hq⟩ := hcd
  have key := fun (Q : List (PySem.Str × Value) → Shared → Prop) (E : Value → Shared → Prop) => hbind (model prog w) A.in1 E Q
  simp only [hdata, callFunction, hco, hgen, hbody, hc]
  refine wpC.bindA (m := field (.ref cc) 1) (wpAny_field hoc hdc hq ?_)
  refine wpC.bindA (wpAny_pure ?_)
  refine wpC.bindA (hbind _ _ _ _ ?_)
  refine wpC.bindA (wpAny_newFunctionEnv hcell hloc (fun h₀ hns₀ hsb₀ => ?_) hk)
  refine wpC.bindA (wpAny_enterFrame (hlim.fresh _ hsb₀) hroom ?_)
  refine wpC.pure ⟨rfl, codeC.func fun E => ?_⟩
  have := h h₀ hns₀ (fun b o e => hsb₀.extBut b o (Nat.ne_of_lt (Heap.lt_size e)) (Heap.get?_push_of_some _ e)) E
  have e1 : callEnv fd s.heap.objs.size a = newEnv fd.scope s.heap.objs.size fd.globals fd.closure (fd.qualname ++ ".<locals>.") (some a) fd.code none fd.builtins := rfl
  rw [e1, hc] at this
  exact this

def FunOkC (a d : Nat) (tn : Bool) (args : List V) (names : List PySem.Str) (us : List V) (cells : List Cell) (v : V) : Prop :=
  ∀ (c : Cx), c.Ok → d < c.d → (tn = true → c.outer = []) → ∀ ρ σ g as s xs ys Q E as₀ led₀, Inv c g as ρ σ s → RepAll as₀ args xs → RepAll [] us ys → Sto as₀ cells led₀ → led₀.map (·.1) = as₀ → as₀.Nodup → News g c.L s.heap led₀ →
    (∀ s' x, Inv c g as ρ σ s' → Rep [] v x → Q x s') → wpC (model PR c.w) c.A (PySem.call (.ref a) xs (names.zip ys)) Q E s

theorem FunOkC.of {a d : Nat} {tn : Bool} {args : List V} {names : List PySem.Str} {us : List V} {cells σ' : List Cell} {v : V} {ρ₀ : Loc}
    {name qual : PySem.Str} {params : Arguments} {body : List Stmt} {scope : Scope} {dV kV doc pm cdv ct oc : Value} {an od : Option Addr} {osl : Array (Option Value)}
    (ho : ∀ P, (hd.heap_39 P).lookup a = some ⟨oc, od, .func (fnOf name qual params body scope dV kV doc pm an cdv ct), osl⟩) (hcd : ∀ P, codeIn (hd.heap_39 P) cdv qual = true)
    (hbind : ∀ (P : Params) (s : Shared) (as₀ : List Nat) (xs ys : List Value), (hd.heap_39 P).In s.heap → RepAll as₀ args xs → RepAll [] us ys → ∃ binds, BindsTo s (fnOf name qual params body scope dV kV doc pm an cdv ct) ⟨xs, names.zip ys⟩ binds ∧ RepBinds as₀ ρ₀ binds)
    (hloc : (ρ₀.all fun x => decide (scope.names.lookup x.1 = some .local)) = true) (hnd : (ρ₀.map (·.1)).Nodup)
    (hco : scope.isCoroutine = false) (hgen : scope.isGenerator = false) (hk : scope.kind = .function) (hcell : ∀ x ∈ scope.names, x.2 ≠ .cell) (hv : v.low 0 = true)
    (hbody : ∀ c : Cx, c.Ok → c.scope = scope → c.d = d → c.tn = tn → c.k = cells.length → ExC c ρ₀ cells body (.ret v σ')) : FunOkC a d tn args names us cells v := by
  intro c O hd htn ρ σ g as s xs ys Q E as₀ led₀ I r1 r2 st₀ e₀ nd₀ N₀ kv
  have X := I.X O
  have T := I.T O
  obtain ⟨B, D, sim, nd, off, m, led, F, N, e, l, t⟩ := I
  obtain ⟨binds, hb, rb⟩ := hbind c.w.params s as₀ xs ys (X.keeps F.keep) r1 r2
  have hlen₀ : as₀.length = cells.length := by rw [← e₀, List.length_map, st₀.length]
  have N₁ : News g c.L s.heap ((c.fz ++ led) ++ led₀) := fun p hp => (List.mem_append.mp hp).elim (N p) (N₀ p)
  have hr := O.hr
  have hu := O.hu
  have XS := X.keeps F.keep
  refine wpC.call (codeC.def (fd := fnOf name qual params body scope dV kV doc pm an cdv ct) (body := body) (binds := binds) (by show c.A₀.depth + 1 < recursionLimit; omega) (XS _ _ (ho _)) rfl (T.nolimit.keeps F.keep) (codeRec_of XS (hcd _)) rfl hb hcell (fun y hy => ?_) (fun h₁ hns hk₁ E' => ?_) hco hgen hk)
  · have : y.1 ∈ ρ₀.map (·.1) := by rw [← rb.names]; exact List.mem_map_of_mem hy
    obtain ⟨z, hz, hzy⟩ := List.mem_map.mp this
    have := of_decide_eq_true (List.all_eq_true.mp hloc z hz)
    rw [← hzy]
    exact this
  obtain ⟨oL, es, ep, hLg, hLd, hN, hNs, st, B₂⟩ := kts_enter B F N₁ (Around.frames_deeper B.stack) O.hk
  let g' := hideAll s.heap (((c.fz ++ led) ++ led₀).map (·.1))
  let c' : Cx := { w := c.w, mean := c.mean, mg := c.mg, mb := c.mb, A₀ := c.A, base := c.base, outer := c.env :: c.outer, qual := qual, scope := scope, L := s.heap.objs.size, f := a, cd := cdv, s₀ := s, tn := tn, d := d, fz := c.fz ++ led, k := cells.length }
  have O' : c'.Ok := ⟨O.XB, O.TB, hk, O.hh, O.hg, by show c.A₀.depth + 1 + 1 + d < recursionLimit; omega, by show c.A₀.units + 3 + 100 * d + 100 < 9900; omega⟩
  have simT : ∀ s' : Shared, s' = { s with heap := s'.heap, toks := s'.toks } → s' = { c.s₀ with heap := s'.heap, toks := s'.toks } := fun s' h => by rw [h, sim]
  have F' : Fr g' s.heap.objs.size h₁ (fun y => binds.reverse.lookup y) := ⟨hns, fun b o e => hk₁ b o (of_hideAll _ e), Nat.le_of_eq (hideAll_size _ _)⟩
  have N' : News g' s.heap.objs.size h₁ ((c.fz ++ led) ++ led₀) := fun p hp => ⟨hk₁ _ _ (N₁ p hp).1, Nat.ne_of_lt (Heap.lt_size (N₁ p hp).1), hideAll_none _ (List.mem_map_of_mem hp)⟩
  have D' : KtsDicts c'.fs g' := fun b hb => by
    rcases kts_mem hb with rfl | hb
    · exact ⟨oL, es, ep, hLg, hLd⟩
    · obtain ⟨o, es', n', ho', hd'⟩ := D b hb
      exact ⟨o, es', n', st b o ho', hd'⟩
  refine hbody c' O' rfl rfl rfl rfl g' as₀ { s with heap := h₁, toks := s.toks + binds.length } _ E' ⟨B₂, D', rfl, nd₀, fun i a hi ha => ?_, _, led₀, F', N', e₀, rb.locOk hnd, st₀⟩ ?_
  · rw [List.getElem?_eq_none (by rw [hlen₀]; exact hi)] at ha
    cases ha
  intro g'' as'' ρ'' s' x tn' ext I'' rx
  have rx' : Rep [] v x := Rep.cut (as := []) (by simpa using rx) hv
  obtain ⟨B₂', D₂, sim₂, nd₂, off₂, m₂, led₂, F₂, N₂, e₂, l₂, t₂⟩ := I''
  have NN : News g c.L s'.heap (c.fz ++ led) := fun p hp => ⟨(N₂ p (List.mem_append_left _ hp)).1, (N p hp).2⟩
  refine kv s' x ⟨B, D, simT s' sim₂, nd, off, m, led, ?_, NN, e, l, t⟩ rx'
  rcases tn' with rfl | ⟨htt, T₂⟩
  · exact ⟨hN _ (F₂.keep _ _ hLg), fun b o e => F₂.keep b o (st b o e), F.above⟩
  · have ho := htn htt
    obtain ⟨sl, hs⟩ := T₂.up hLg
    have nL₀ : g.get? c.L = none := kts_self F
    refine ⟨hNs sl _ (F₂.keep _ _ hs), fun b o e => F₂.keep b o (T₂.other b o (st b o e) fun q => ?_), F.above⟩
    have q' : b ∈ (c.env :: c.outer).filterMap (·.frame) := q
    rw [ho] at q'
    rcases kts_mem q' with z | z
    · rw [z, nL₀] at e
      cases e
    · simp at z

section
variable {c : Cx} {ρ : Loc} {σ : List Cell}
theorem ClC.fun0 {a d : Nat} {tn : Bool} {args us : List V} {names : List PySem.Str} {v : V} (H : FunOkC a d tn args names us [] v) (O : c.Ok) (hd : d < c.d) (htn : tn = true → c.outer = []) (ha : args.all (V.low 0) = true) (hu : us.all (V.low 0) = true) :
    ClC c σ (.ref a) args names us (.val v σ) := fun ρ g as s xs ys I r1 r2 Q E K =>
  H c O hd htn ρ σ g as s xs ys Q E [] [] I (RepAll.cut (as := []) (by simpa using r1) ha) (RepAll.cut (as := []) (by simpa using r2) hu) .nil rfl .nil News.nil
    fun s' x I' r => K g as s' x .refl .refl I' (r.ext ⟨as, rfl⟩)
theorem ClC.fun1 {a d i : Nat} {tn : Bool} {args args₀ us : List V} {names : List PySem.Str} {cl : Cell} {v : V} (H : FunOkC a d tn args₀ names us [cl] v) (O : c.Ok) (hd : d < c.d) (htn : tn = true → c.outer = [])
    (hi : σ[i]? = some cl) (hf : cl.low 0 = true) (he : args = args₀.map (V.put i)) (ha : args₀.all (V.low 1) = true) (hu : us.all (V.low 0) = true) :
    ClC c σ (.ref a) args names us (.val v σ) := fun ρ g as s xs ys I r1 r2 Q E K => by
  have hlt : i < as.length := by
    rw [I.len]
    rcases Nat.lt_or_ge i σ.length with h | h
    · exact h
    · rw [List.getElem?_eq_none h] at hi; cases hi
  have hai : as[i]? = some as[i] := List.getElem?_eq_getElem hlt
  obtain ⟨a', ob, e', hob, hc⟩ := I.cell hi (.ref i as[i] hai)
  cases e'
  subst he
  have hN : ∃ led, News g c.L s.heap (c.fz ++ led) ∧ led.map (·.1) = as := by
    obtain ⟨_, _, _, _, _, m, led, F, N, e, l, t⟩ := I
    exact ⟨led, N, e⟩
  obtain ⟨led, N, el⟩ := hN
  have hmem : ∃ p ∈ led, p.1 = as[i] := by
    have : as[i] ∈ led.map (·.1) := by rw [el]; exact List.getElem_mem hlt
    obtain ⟨p, hp, hq⟩ := List.mem_map.mp this
    exact ⟨p, hp, hq⟩
  obtain ⟨p, hp, hq⟩ := hmem
  have hN := N p (List.mem_append_right _ hp)
  rw [hq] at hN
  refine H c O hd htn ρ σ g as s xs ys Q E [as[i]] [(as[i], ob)] I (repAll_put hai ha r1) (RepAll.cut (as := []) (by simpa using r2) hu) (.cons ((CellRep.cut (as := []) (by simpa using hc) hf).ext ⟨_, rfl⟩) .nil) rfl (by simp) ?_
    fun s' x I' r => K g as s' x .refl .refl I' (r.ext ⟨as, rfl⟩)
  intro p hp
  rw [List.mem_singleton.mp hp]
  exact ⟨hob, hN.2⟩
end
end Mine

/-! B7 -/
namespace Mine
section
variable {c : Cx} {ρ : Loc} {σ σ₁ σ₂ σ₃ : List Cell} {o : Res}

theorem bytes_call {prog : Program} {w : World} {A : Around} {E : Value → Shared → Prop} {s : Shared} {x : Value} {Q : Value → Shared → Prop}
    (h : ∀ (A' : Around) (E' : Value → Shared → Prop) (P : Fin → Shared → Prop), (∀ b t s', Q (.bytes b t) s' → P (.done (.ret (.bytes b t))) s') → wpAny (model prog w) A' (Builtin.«bytes.__new__» ⟨[.type "bytes", x], []⟩) P E' s) :
    wpAny (model prog w) A (PySem.call (.type "bytes") [x]) Q E s := by
  refine callType_codes (Q₁ := fun obj s₁ => s₁.TypeIs obj "bytes" ∧ Q obj s₁) F.bm_called (F.bm_typeCall _) F.entry_object_init ?_ fun obj s₁ h₁ => ?_
  · refine codeAny_of_tree ?_
    show wpAny _ _ (do checkBuiltinCall "bytes.__new__" ⟨[.type "bytes", x], []⟩; again (.builtin "bytes.__new__" ⟨[.type "bytes", x], []⟩)) _ _ s
    refine wpAny_bind (wpAny_of_eq (F.bm_newCall _) (wpAny_pure ⟨plainId_quiet F.bm_plain _, codeAny_builtin F.bm_entry ?_⟩))
    exact h _ _ _ fun b t s' q => ⟨typeIs_bytes _ _ _, q⟩
  · exact ⟨h₁.1, F.args_object_init_2 obj _, object_init_meets F.bm_called.init.lookup F.bm_called.made (by decide) prog w A.in1 _ s₁ ⟨h₁.1, rfl, h₁.2⟩⟩

theorem by_look : typeLookup (.type "bytes") "__bytes__" = pure (some (.builtin "bytes.__bytes__")) := by rw [typeLookup_type, builtinLookup_eq_fast]; kernel_rfl
theorem by_look_int : typeLookup (.type "int") "__bytes__" = pure none := by rw [typeLookup_type, builtinLookup_eq_fast]; kernel_rfl
theorem by_look_ba : typeLookup (.type "bytearray") "__bytes__" = pure none := by rw [typeLookup_type, builtinLookup_eq_fast]; kernel_rfl
theorem by_noidx_ba : typeLookup (.type "bytearray") "__index__" = pure none := by rw [typeLookup_type, builtinLookup_eq_fast]; kernel_rfl

theorem Cl.bytesB {b : List UInt8} : Cl c σ (.type "bytes") [.bytes b] [] [] (.val (.bytes b) σ) := fun ρ g as s xs ys I r1 r2 Q E K => by
  cases r1 with
  | cons ra r1 =>
  cases r1; cases r2; cases ra with
  | bytes _ t =>
  refine bytes_call fun A' E' P hP => ?_
  unfold Builtin.«bytes.__new__»
  refine wpAny_bind (wpAny_of_eq (a := true) rfl ?_)
  refine bm_if_false rfl ?_
  refine wpAny_bind (wpAny_of_eq F.bm_sub ?_)
  refine bm_if_false rfl ?_
  refine wpAny_bind (wpAny_of_eq (F.bm_bind _) ?_)
  refine wpAny_bind (wpAny_of_eq (a := ()) rfl ?_)
  refine wpAny_bind (wpAny_of_eq (a := ()) rfl ?_)
  refine bm_if_false rfl ?_
  refine wpAny_bind (wpAny_specialOf (typeIs_bytes _ _ _) by_look ?_)
  refine wpAny_bind (wpAny_rule ?_)
  refine wpAny_bind (wpAny_typeOf (typeIs_bytes _ _ _) ?_)
  refine bm_if_true rfl ?_
  show wpAny _ _ (if (Value.type "bytes" == Value.type "bytes") = true then _ else _) _ _ _
  refine bm_if_true (by decide) ?_
  have fin := hP _ _ _ (K g as s _ .refl .refl I (.bytes b t))
  first
    | exact wpAny_pure fin
    | exact wpAny_bind (wpAny_pure (wpAny_pure fin))

theorem Cl.bytesI {n : Nat} (hn : n ≤ 1000000) : Cl c σ (.type "bytes") [.int n] [] [] (.val (.bytes (List.replicate n 0)) σ) := fun ρ g as s xs ys I r1 r2 Q E K => by
  cases r1 with
  | cons ra r1 =>
  cases r1; cases r2; cases ra with
  | int _ t =>
  obtain ⟨z, hz⟩ : ∃ z : Int, z = (n : Int) := ⟨_, rfl⟩
  rw [← hz]
  refine bytes_call fun A' E' P hP => ?_
  unfold Builtin.«bytes.__new__»
  refine wpAny_bind (wpAny_of_eq (a := true) rfl ?_)
  refine bm_if_false rfl ?_
  refine wpAny_bind (wpAny_of_eq F.bm_sub ?_)
  refine bm_if_false rfl ?_
  refine wpAny_bind (wpAny_of_eq (F.bm_bind _) ?_)
  refine wpAny_bind (wpAny_of_eq (a := ()) rfl ?_)
  refine wpAny_bind (wpAny_of_eq (a := ()) rfl ?_)
  refine bm_if_false rfl ?_
  refine wpAny_bind (wpAny_specialOf (typeIs_int _ _ _) by_look_int ?_)
  refine wpAny_bind (wpAny_bind (wpAny_of_eq (a := none) rfl (wpAny_pure ?_)))
  refine bm_if_false rfl ?_
  refine wpAny_bind (wpAny_specialOf (typeIs_int _ _ t) F.slot_int_index.lookup ?_)
  refine bm_if_false rfl ?_
  refine wpAny_bind (wpAny_of_eq (a := .ok z) rfl ?_)
  dsimp only
  refine bm_if_false (by simp [Builtin.Bytes.fitsIndex]; omega) ?_
  refine ite_not (by omega) ?_
  refine ite_not (by omega) ?_
  refine bm_if_false (by simp [Builtin.Bytes.tooLong, sizeLine_eq]; omega) ?_
  refine wpAny_bind (wpAny_rule ?_)
  rw [show z.toNat = n by omega]
  refine wpAny_bind (wpAny_mkBytes ?_ (by rw [sizeLine_eq]; simp; omega))
  show wpAny _ _ (if (Value.type "bytes" == Value.type "bytes") = true then _ else _) _ _ _
  refine bm_if_true (by decide) ?_
  have e : Array.replicate n (0 : UInt8) = (List.replicate n 0).toArray := by simp
  rw [e]
  have fin := hP _ _ _ (K g as _ _ .refl .refl (I.tok (s.toks + 1)) (.bytes (List.replicate n 0) s.toks))
  first
    | exact wpAny_pure fin
    | exact wpAny_bind (wpAny_pure (wpAny_pure fin))

theorem Cl.bytesA {i : Nat} {b : List UInt8} (h : σ[i]? = some (.barr b)) (hz : b.length ≤ 1000000) : Cl c σ (.type "bytes") [.ref i] [] [] (.val (.bytes b) σ) := fun ρ g as s xs ys I r1 r2 Q E K => by
  cases r1 with
  | cons ra r1 =>
  cases r1; cases r2
  obtain ⟨a, ob, rfl, ho, hc⟩ := I.cell h ra
  cases hc
  have hT : s.TypeIs (.ref a) "bytearray" := ⟨_, ho, rfl⟩
  refine bytes_call fun A' E' P hP => ?_
  unfold Builtin.«bytes.__new__»
  refine wpAny_bind (wpAny_of_eq (a := true) rfl ?_)
  refine bm_if_false rfl ?_
  refine wpAny_bind (wpAny_of_eq F.bm_sub ?_)
  refine bm_if_false rfl ?_
  refine wpAny_bind (wpAny_of_eq (F.bm_bind _) ?_)
  refine wpAny_bind (wpAny_of_eq (a := ()) rfl ?_)
  refine wpAny_bind (wpAny_of_eq (a := ()) rfl ?_)
  refine bm_if_false rfl ?_
  refine wpAny_bind (wpAny_specialOf hT by_look_ba ?_)
  refine wpAny_bind (wpAny_bind ?_)
  show wpAny _ _ (load a >>= _) _ _ _
  refine wpAny_bind (wpAny_load ho ?_)
  refine wpAny_pure (wpAny_pure ?_)
  refine bm_if_false rfl ?_
  refine wpAny_bind (wpAny_specialOf hT by_noidx_ba ?_)
  refine bm_if_true rfl ?_
  first
    | show wpAny _ _ (Builtin.Bytes.buffer? "bytes.__new__" (.ref a) true >>= _) _ _ _
    | (refine wpAny_bind ?_; show wpAny _ _ (Builtin.Bytes.buffer? "bytes.__new__" (.ref a) true >>= _) _ _ _)
  refine wpAny_bind ?_
  unfold Builtin.Bytes.buffer?
  have look : typeLookup (.type "bytearray") "__buffer__" = pure (some (.builtin "bytearray.__buffer__")) := by rw [typeLookup_type, builtinLookup_eq_fast]; kernel_rfl
  refine wpAny_bind (wpAny_specialOf hT look ?_)
  dsimp only
  refine wpAny_bind (ba_own (id := "bytearray.__buffer__") look (by decide +kernel) (by decide +kernel) ho rfl ?_)
  rw [if_neg (by decide)]
  refine wpAny_bind (wpAny_specialOf hT look ?_)
  refine wpAny_bind (ba_release ho rfl ?_)
  rw [if_neg (by decide)]
  refine wpAny_bind ?_
  unfold Builtin.Bytes.payload Builtin.Bytes.payload?
  refine wpAny_bind (wpAny_bind (wpAny_load ho ?_))
  refine wpAny_pure (wpAny_pure (wpAny_pure ?_))
  dsimp only
  refine wpAny_bind (wpAny_rule ?_)
  have fin := hP _ _ _ (K g as _ _ .refl .refl (I.tok (s.toks + 1)) (.bytes b s.toks))
  first
    | exact wpAny_bind (wpAny_mkBytes (wpAny_bind (bm_if_true (by decide) (wpAny_bind (wpAny_pure (wpAny_pure (wpAny_pure fin)))))) (by rw [sizeLine_eq]; simp; omega))
    | exact wpAny_bind (wpAny_mkBytes (wpAny_bind (bm_if_true (by decide) (wpAny_pure (wpAny_pure fin)))) (by rw [sizeLine_eq]; simp; omega))
    | exact wpAny_bind (wpAny_mkBytes (bm_if_true (by decide) (wpAny_bind (wpAny_pure (wpAny_pure fin)))) (by rw [sizeLine_eq]; simp; omega))
    | exact wpAny_bind (wpAny_mkBytes (bm_if_true (by decide) (wpAny_pure fin)) (by rw [sizeLine_eq]; simp; omega))

theorem ints_of {as : List Nat} : ∀ {ns : List Int} {xs : List Value}, RepAll as (ns.map V.int) xs → IntsAre xs ns
  | [], _, h => by cases h; exact .nil
  | n :: ns, _, h => by
    cases h with
    | cons a r => cases a; exact .cons _ _ (ints_of r)
theorem Cl.bytesL {i : Nat} {ns : List Int} (h : σ[i]? = some (.list (ns.map V.int))) (hr : ∀ n ∈ ns, 0 ≤ n ∧ n < 256) (hz : ns.length ≤ 1000000) (O : c.Ok) : Cl c σ (.type "bytes") [.ref i] [] [] (.val (.bytes (ns.map fun n => n.toNat.toUInt8)) σ) := fun ρ g as s xs ys I r1 r2 Q E K => by
  cases r1 with
  | cons ra r1 =>
  cases r1; cases r2
  obtain ⟨a, ob, rfl, ho, hc⟩ := I.cell h ra
  cases hc with
  | list n rs =>
  rename_i vs
  refine call_bytes_ints (vs := vs) (ns := ns) ⟨_, ho, rfl, _, rfl⟩ (ints_of rs) hr (by rw [sizeLine_eq, rs.length]; simp; omega) O.hh fun h' t k hk => ?_
  exact K g as _ _ .refl .refl (I.grow hk) (.bytes (ns.map fun n => n.toNat.toUInt8) t)
end
end Mine

/-! B8 -/
namespace Mine
section
variable {c : Cx} {ρ : Loc} {σ σ₁ σ₂ σ₃ : List Cell} {o : Res}

/-- the value is a list with these items -/
def LS (c : Cx) (σ : List Cell) (v : V) (vs : List V) : Prop :=
  ∀ ρ g as s x, Inv c g as ρ σ s → Rep as v x → ∃ a xs, x = .ref a ∧ s.heap.IsList a xs.toArray ∧ RepAll as vs xs
theorem LS.cell {i : Nat} {vs : List V} (h : σ[i]? = some (.list vs)) : LS c σ (.ref i) vs := fun ρ g as s x I r => by
  obtain ⟨a, ob, rfl, ho, hc⟩ := I.cell h r
  cases hc with
  | list n rs => exact ⟨a, _, rfl, ⟨_, ho, rfl, n, rfl⟩, rs⟩
theorem repAll_ints {as : List Nat} : ∀ {vs : List Value} {ns : List Int}, IntsAre vs ns → RepAll as (ns.map V.int) vs
  | _, _, .nil => .nil
  | _, _, .cons n t h => .cons (.int n t) (repAll_ints h)
theorem LS.ground {l : Nat} {vals : List Value} {ns : List Int} (hl : c.base.IsList l vals.toArray) (hi : IntsAre vals ns) : LS c σ (.fn l) (ns.map V.int) := fun ρ g as s x I r => by
  cases r
  obtain ⟨m, led, F, N⟩ := I.fr
  obtain ⟨ob, ho, hc, n, hd⟩ := hl
  exact ⟨l, vals, rfl, ⟨ob, F.keep _ _ (I.B.stays _ _ ho), hc, n, hd⟩, repAll_ints hi⟩

theorem Tru.list {v : V} {vs : List V} {b : Bool} (h : LS c σ v vs) (hz : vs.length ≤ 1000000) (hb : (!vs.isEmpty) = b) : Tru c σ v b := fun ρ g as s x Q E I r k => by
  obtain ⟨a, xs, rfl, hl, rs⟩ := h ρ g as s x I r
  refine wpAny_truthy_list hl (by have := rs.length; simp; omega) ?_
  have : (!xs.toArray.isEmpty) = b := by
    rw [← hb]
    have := rs.length
    cases vs <;> cases xs <;> simp_all
  rw [this]
  exact k _ (I.tok _)

theorem RepAll.drop {as : List Nat} {vs : List V} {xs : List Value} (r : RepAll as vs xs) (n : Nat) : RepAll as (vs.drop n) (xs.drop n) := by
  induction r generalizing n with
  | nil => simpa using RepAll.nil
  | cons a r ih =>
    cases n with
    | zero => exact .cons a r
    | succ n => exact ih n
theorem RepAll.take {as : List Nat} {vs : List V} {xs : List Value} (r : RepAll as vs xs) (n : Nat) : RepAll as (vs.take n) (xs.take n) := by
  induction r generalizing n with
  | nil => simpa using RepAll.nil
  | cons a r ih =>
    cases n with
    | zero => exact .nil
    | succ n => exact .cons a (ih n)
theorem RepAll.reverse {as : List Nat} {vs : List V} {xs : List Value} (r : RepAll as vs xs) : RepAll as vs.reverse xs.reverse := by
  induction r with
  | nil => exact .nil
  | cons a r ih =>
    rw [List.reverse_cons, List.reverse_cons]
    exact ih.append (.cons a .nil)

/-- the base is a name: nothing is let go -/
def isName : PySem.Expr → Bool
  | .Name .. => true
  | _ => false
theorem name_noTemp {value : PySem.Expr} {v r : Value} (h : isName value = true) : letTemporaryGo value v r = pure () := by
  cases value <;> first | rfl | cases h

theorem slicePick_sl (xs : List Value) (lo hi : Option Int) : slicePick xs.toArray lo hi none = (sl xs lo hi).toArray := by
  unfold slicePick sl
  rw [sliceBounds_plain]
  simp only [sliceRange_one, pick_run, List.size_toArray]
theorem Ev.sliceL {value : PySem.Expr} {lo hi : Option PySem.Expr} {p pos : Pos} {v : V} {vs : List V} {l u : Option Int} (hv : Ev c ρ σ value (.val v σ₁)) (hl : Part c ρ σ₁ lo l σ₂) (hu : Part c ρ σ₂ hi u σ₃) (hL : LS c σ₃ v vs) (hz : vs.length ≤ 1000000) (hn : isName value = true) :
    Ev c ρ σ (.Subscript value (.Slice lo hi none p) pos) (.val (.ref σ₃.length) (σ₃ ++ [.list (sl vs l u)])) :=
  fun g as s I Q E K => Subscript_ (hv.val I fun g₁ as₁ s₁ a t₁ x₁ I₁ ra => wpAny_Slice (hl g₁ as₁ s₁ _ E I₁ fun g₂ as₂ s₂ px t₂ x₂ I₂ hx => hu g₂ as₂ s₂ _ E I₂ fun g₃ as₃ s₃ py t₃ x₃ I₃ hy => by
    rw [evalPart_none]
    refine wpAny_pure ?_
    obtain ⟨ad, xs, rfl, hls, rs⟩ := hL ρ g₃ as₃ s₃ a I₃ (ra.ext (x₂.trans x₃))
    have I₄ := I₃.pushed { cls := .type "slice", data := .fields #[px, py, .none] } s₃.toks
    refine tail_of_ItemOn (ops := [.ref s₃.heap.objs.size, .ref ad]) ⟨"list", _, list_getitem_lookup, (hls.push _).typeIs, ?_⟩ rfl (fun r => name_noTemp hn)
    refine wpAny_getItem_list_slice (lo := l) (hi := u) (st := none) (hls.push _) (Heap.IsSliceOf.new ..) hx hy .none (by simp) ?_ (by have := rs.length; rw [sizeLine_eq]; simp; omega)
    rw [slicePick_sl]
    obtain ⟨J, q⟩ := I₄.alloc (cl := .list (sl vs l u)) (.list 0 (xs := sl xs l u) (by
      have e := rs.length
      unfold sl
      rw [e]
      exact (rs.drop _).take _)) rfl
    exact K g₃ _ _ _ ((t₁.trans t₂).trans t₃) (((x₁.trans x₂).trans x₃).trans .one) J (.ref _ _ q)))
theorem slicePick_rev (xs : List Value) : slicePick xs.toArray none none (some (-1)) = xs.reverse.toArray := by
  rw [krv_pick]
theorem Ev.revL {value : PySem.Expr} {k : Nat} {cp p pos up : Pos} {v : V} {vs : List V} (hv : Ev c ρ σ value (.val v σ₁)) (hL : LS c σ₁ v vs) (hz : vs.length ≤ 1000000) (hn : isName value = true) :
    Ev c ρ σ (.Subscript value (.Slice none none (some (.UnaryOp .USub (.Constant (.int 1) k cp) up)) p) pos) (.val (.ref σ₁.length) (σ₁ ++ [.list vs.reverse])) :=
  fun g as s I Q E K => Subscript_ (hv.val I fun g₁ as₁ s₁ a t₁ x₁ I₁ ra => wpAny_Slice (wpAny_pure (wpAny_pure (wpAny_UnaryOp (wpAny_Constant_int (PySem.P.neg_int (by
    obtain ⟨ad, xs, rfl, hls, rs⟩ := hL ρ g₁ as₁ s₁ a I₁ ra
    refine tail_of_ItemOn (ops := [.ref ad, .ref s₁.heap.objs.size]) ⟨"list", _, list_getitem_lookup, (hls.push _).typeIs, ?_⟩ rfl (fun r => name_noTemp hn)
    refine wpAny_getItem_list_slice (lo := none) (hi := none) (st := some (-1)) (hls.push _) (Heap.IsSliceOf.new ..) .none .none (.int (-1) _) (by simp) ?_ (by have := rs.length; rw [sizeLine_eq]; simp; omega)
    rw [slicePick_rev]
    have I₄ := I₁.pushed { cls := .type "slice", data := .fields #[.none, .none, .int (-1) (s₁.toks + 1)] } (s₁.toks + 1 + 1)
    obtain ⟨J, q⟩ := I₄.alloc (cl := .list vs.reverse) (.list 0 (xs := xs.reverse) rs.reverse) rfl
    exact K g₁ _ _ _ t₁ (x₁.trans .one) J (.ref _ _ q))))))))

/-! one item -/
theorem Ev.itemL {value ie : PySem.Expr} {pos : Pos} {v u : V} {vs : List V} {i : Int} (hv : Ev c ρ σ value (.val v σ₁)) (hi : Ev c ρ σ₁ ie (.val (.int i) σ₂)) (hL : LS c σ₂ v vs) (h0 : 0 ≤ i) (h1 : i < 1000000) (hu : vs[i.toNat]? = some u) (hn : isName value = true)
    (hs : ∀ o x, subscripted ie false o x = operate [o, x] (getItem o x) := by intro _ _; rfl) : Ev c ρ σ (.Subscript value ie pos) (.val u σ₂) :=
  fun g as s I Q E K => Subscript_ (hv.val I fun g₁ as₁ s₁ a t₁ x₁ I₁ ra => hi.val I₁ fun g₂ as₂ s₂ y t₂ x₂ I₂ ry => by
    obtain ⟨ad, xs, rfl, hls, rs⟩ := hL ρ g₂ as₂ s₂ a I₂ (ra.ext x₂)
    cases ry with
    | int _ t =>
    obtain ⟨z, hz, rz⟩ := rs.get hu
    exact tail_of_ItemOn (ops := [.ref ad, .int i t]) ⟨"list", _, list_getitem_lookup, hls.typeIs, wpAny_getItem_list hls h0 (by omega) (x := z) (by simpa using hz) (K g₂ as₂ _ _ (t₁.trans t₂) (x₁.trans x₂) I₂ rz)⟩ (hs _ _) (fun r => name_noTemp hn))
/-- of a list that is written there: it is let go behind -/
theorem Ev.itemT {es : List PySem.Expr} {lp : Pos} {ie : PySem.Expr} {pos : Pos} {v u : V} {vs : List V} {i : Int} (hv : Ev c ρ σ (.List es lp) (.val v σ₁)) (hi : Ev c ρ σ₁ ie (.val (.int i) σ₂)) (hL : LS c σ₂ v vs) (h0 : 0 ≤ i) (h1 : i < 1000000) (hu : vs[i.toNat]? = some u)
    (hs : ∀ o x, subscripted ie false o x = operate [o, x] (getItem o x) := by intro _ _; rfl) : Ev c ρ σ (.Subscript (.List es lp) ie pos) (.val u σ₂) :=
  fun g as s I Q E K => Subscript_ (hv.val I fun g₁ as₁ s₁ a t₁ x₁ I₁ ra => hi.val I₁ fun g₂ as₂ s₂ y t₂ x₂ I₂ ry => by
    obtain ⟨ad, xs, rfl, hls, rs⟩ := hL ρ g₂ as₂ s₂ a I₂ (ra.ext x₂)
    cases ry with
    | int _ t =>
    obtain ⟨z, hz, rz⟩ := rs.get hu
    unfold subscriptTail
    refine wpAny_bind ?_
    rw [getitemInPython_of_ne hls.typeIs.not_modules]
    refine wpAny_bind (wpAny_specialOf hls.typeIs list_getitem_lookup (wpAny_pure ?_))
    refine wpAny_bind ?_
    show wpAny _ _ (subscripted ie false (.ref ad) (.int i t)) _ _ _
    rw [hs]
    refine wpAny_operateT (wpAny_getItem_list hls h0 (by omega) (x := z) (by simpa using hz) ?_)
    refine wpAny_bind (m := letTemporaryGo (.List es lp) (.ref ad) z) ?_
    show wpAny _ _ (do let _ ← holding [z] (runValue (.builtin "proto.let_go" {}))) _ _ _
    refine wpAny_bind (wpAny_holding (wpAny_runValue (codeAny_builtin entry_let_go ?_)))
    exact wpAny_pure (wpAny_pure (wpAny_pure (K g₂ as₂ _ _ (t₁.trans t₂) (x₁.trans x₂) I₂ rz))))

/-! two lists -/
theorem Op2.addL {v u : V} {vs us : List V} (hv : LS c σ v vs) (hu : LS c σ u us) (hz : vs.length + us.length ≤ 1000000) : Op2 c σ v u (binaryOp .Add) (.val (.ref σ.length) (σ ++ [.list (vs ++ us)])) := fun ρ g as s x y I r1 r2 Q E K => by
  obtain ⟨a, xs, rfl, hl, rs⟩ := hv ρ g as s x I r1
  obtain ⟨b, ys, rfl, hm, qs⟩ := hu ρ g as s y I r2
  obtain ⟨m, led, F, N⟩ := I.fr
  have I₀ := I
  obtain ⟨B, D, sim, nd, off, m', led', F', N', e, l, t⟩ := I₀
  refine add_lists F' N' hl hm (fun h' F₂ N₂ => ?_) (by have := rs.length; have := qs.length; rw [sizeLine_eq]; omega)
  have J := I.allocAt (k := s.toks) (cl := .list (vs ++ us)) e l t F₂ N₂ (fun p hp => Heap.lt_size (N' p hp).1) (.list 0 (rs.append qs))
  exact K g _ _ _ .refl .one J (.ref _ _ (by rw [← I.len]; simp))

/-! list.append -/
theorem Meth.lappend {i : Nat} {vs : List V} (h : σ[i]? = some (.list vs)) : Meth c σ (.ref i) "append" "list.append" := fun ρ g as s a pl Q E I r k => by
  obtain ⟨a', ob, rfl, ho, hc⟩ := I.cell h r
  cases hc
  exact getMethod_list_append ho rfl rfl k
theorem Cl.lappend {i : Nat} {vs : List V} {v : V} (h : σ[i]? = some (.list vs)) (hk : c.k ≤ i) (hz : vs.length < 1000000) : Cl c σ (.builtin "list.append") [.ref i, v] [] [] (.val .none (σ.set i (.list (vs ++ [v])))) := fun ρ g as s xs ys I r1 r2 Q E K => by
  cases r1 with
  | cons ra r1 =>
  cases r1 with
  | cons rb r1 =>
  cases r1; cases r2
  rename_i y
  obtain ⟨a, ob, rfl, ho, hc⟩ := I.cell h ra
  cases hc with
  | list n rs =>
  rename_i zs
  cases ra with
  | ref _ _ ha =>
  have hz' : zs.toArray.size ≤ sizeLine := by have := rs.length; rw [sizeLine_eq]; simp; omega
  refine wpAny_call_entry slot_list_append ⟨_, ho, rfl⟩ entry_list_append ?_ (args_list_append _ _)
  show wpAny _ _ (updateSeq a (·.push y) >>= fun _ => ret .none) _ _ s
  refine wpAny_bind (wpAny_updateSeq ho rfl (wpAny_pure ⟨.none, rfl, ?_⟩) (hz := hz') (_hz' := by rw [Array.size_push]; omega))
  have hS := Heap.get?_update_self (Obj.mapSeq (·.push y)) ho rfl
  have J := I.turn (k := s.toks) (cl := .list (vs ++ [v])) (h' := s.heap.update a (Obj.mapSeq (·.push y))) ha hk (fun b o hb e => (Heap.get?_update_other _ _ hb.symm).trans e) hS (by
    have : (zs.toArray.push y) = (zs ++ [y]).toArray := by simp
    show CellRep as _ { cls := .type "list", data := .seq (zs.toArray.push y) _ }
    rw [this]
    exact .list _ (rs.append (.cons rb .nil)))
  exact K g as _ _ .refl .refl J .none

/-! range, tuple -/
theorem Cl.range1 {n : Int} : Cl c σ (.type "range") [.int n] [] [] (.val (.ref σ.length) (σ ++ [.rng 0 n 1])) := fun ρ g as s xs ys I r1 r2 Q E K => by
  cases r1 with
  | cons ra r1 =>
  cases r1; cases r2; cases ra with
  | int _ t =>
  refine call_range_1 ?_
  obtain ⟨J, q⟩ := (I.tok (s.toks + 1 + 1)).alloc (cl := .rng 0 n 1) (.rng 0 n 1 s.toks t (s.toks + 1)) rfl
  exact K g _ _ _ .refl .one J (.ref _ _ q)
theorem Cl.range3 {x y z : Int} (hz : z ≠ 0) (h : z.natAbs.log2 < 9000) : Cl c σ (.type "range") [.int x, .int y, .int z] [] [] (.val (.ref σ.length) (σ ++ [.rng x y z])) := fun ρ g as s xs ys I r1 r2 Q E K => by
  cases r1 with
  | cons ra r1 =>
  cases r1 with
  | cons rb r1 =>
  cases r1 with
  | cons rd r1 =>
  cases r1; cases r2; cases ra with
  | int _ t =>
  cases rb with
  | int _ u =>
  cases rd with
  | int _ v =>
  refine call_range_3 hz ?_ (.inl (PyProof.noPylong_of_log2 h))
  obtain ⟨J, q⟩ := (I.tok s.toks).alloc (cl := .rng x y z) (.rng x y z t u v) rfl
  exact K g _ _ _ .refl .one J (.ref _ _ q)
theorem Cl.tupleT {i : Nat} {vs : List V} (h : σ[i]? = some (.tuple vs)) : Cl c σ (.type "tuple") [.ref i] [] [] (.val (.ref i) σ) := fun ρ g as s xs ys I r1 r2 Q E K => by
  cases r1 with
  | cons ra r1 =>
  cases r1; cases r2
  obtain ⟨a, ob, rfl, ho, hc⟩ := I.cell h ra
  cases hc with
  | tuple rs =>
  exact call_tuple_same ⟨_, ho, rfl, _, rfl⟩ (K g as _ _ .refl .refl I ra)
theorem Cl.tupleL {i : Nat} {vs : List V} (h : σ[i]? = some (.list vs)) (hz : vs.length ≤ 1000000) : Cl c σ (.type "tuple") [.ref i] [] [] (.val (.ref σ.length) (σ ++ [.tuple vs])) := fun ρ g as s xs ys I r1 r2 Q E K => by
  cases r1 with
  | cons ra r1 =>
  cases r1; cases r2
  obtain ⟨a, ob, rfl, ho, hc⟩ := I.cell h ra
  cases hc with
  | list n rs =>
  refine call_tuple_list ⟨_, ho, rfl, n, rfl⟩ (fun h' hk => ?_) (by have := rs.length; rw [sizeLine_eq]; simp; omega)
  obtain ⟨J, q⟩ := (I.grow (k := s.toks) hk).alloc (cl := .tuple vs) (.tuple rs) rfl
  exact K g _ _ _ .refl .one J (.ref _ _ q)
theorem Op2.inT {i : Nat} {ns : List Int} {x : Int} (h : σ[i]? = some (.tuple (ns.map V.int))) : Op2 c σ (.int x) (.ref i) (compareOp .In) (.val (.bool (ns.any (· == x))) σ) := fun ρ g as s xa ya I r1 r2 Q E K => by
  cases r1 with
  | int _ u =>
  obtain ⟨a, ob, rfl, ho, hc⟩ := I.cell h r2
  cases hc with
  | tuple rs =>
  exact in_tuple_ints ⟨_, ho, rfl, _, rfl⟩ (by simpa using ints_of rs) (K g as _ _ .refl .refl I (.bool _))
end
end Mine

/-! B9 -/
namespace Mine
section
variable {c : Cx} {ρ : Loc} {σ σ₁ σ₂ σ₃ : List Cell} {o : Res}

/-! isinstance -/
def Ans (c : Cx) (σ : List Cell) (v : V) (Tx T : String) (b : Bool) : Prop :=
  ∀ ρ g as s x, Inv c g as ρ σ s → Rep as v x → s.TypeIs x Tx ∧ Answers (fun s => s.TypeIs x Tx) x (.type T) b
theorem meta_mv : typeOf (.type "memoryview") = pure (.type "type") := by kernel_rfl
theorem Answers.of_false_bytes {n : Array UInt8} {u : Tok} {T : String} (hne : (Value.type "bytes" == Value.type T) = false) (hty : typeOf (.type T) = pure (.type "type")) (hsub : isSubtype (.type "bytes") (.type T) = pure false) :
    Answers (fun s => s.TypeIs (.bytes n u) "bytes") (.bytes n u) (.type T) false :=
  fun _ _ _ _ _ _ s hs => by
    obtain ⟨h, g, d, t, os⟩ := s
    exact isinstance_nested_false_bytes hne hty hsub (hs.2 (t + 1))
theorem Ans.bytesT {b : List UInt8} : Ans c σ (.bytes b) "bytes" "bytes" true := fun ρ g as s x I r => by cases r; exact ⟨rfl, Answers.of_true F.isi_meta_bytes (by rw [isSubtype_type]; kernel_rfl)⟩
theorem Ans.bytesF {b : List UInt8} {T : String} (hne : (Value.type "bytes" == Value.type T) = false) (hty : typeOf (.type T) = pure (.type "type")) (hsub : isSubtype (.type "bytes") (.type T) = pure false) : Ans c σ (.bytes b) "bytes" T false := fun ρ g as s x I r => by
  cases r; exact ⟨rfl, Answers.of_false_bytes hne hty hsub⟩
theorem Ans.strT {b : PySem.Str} : Ans c σ (.str b) "str" "str" true := fun ρ g as s x I r => by cases r; exact ⟨rfl, Answers.of_true F.isi_meta_str (by rw [isSubtype_type]; kernel_rfl)⟩
theorem Ans.strF {b : PySem.Str} {T : String} (hne : (Value.type "str" == Value.type T) = false) (hty : typeOf (.type T) = pure (.type "type")) (hsub : isSubtype (.type "str") (.type T) = pure false) : Ans c σ (.str b) "str" T false := fun ρ g as s x I r => by
  cases r; exact ⟨rfl, Answers.of_false_str hne hty hsub⟩
theorem Ans.intT {i : Int} : Ans c σ (.int i) "int" "int" true := fun ρ g as s x I r => by cases r; exact ⟨rfl, Answers.of_true F.isi_meta_int (by rw [isSubtype_type]; kernel_rfl)⟩
theorem Ans.intF {i : Int} {T : String} (hne : (Value.type "int" == Value.type T) = false) (hty : typeOf (.type T) = pure (.type "type")) (hsub : isSubtype (.type "int") (.type T) = pure false) : Ans c σ (.int i) "int" T false := fun ρ g as s x I r => by
  cases r; exact ⟨rfl, Answers.of_false_int hne hty hsub⟩
theorem Ans.boolT {i : Bool} {T : String} (hty : typeOf (.type T) = pure (.type "type")) (hsub : isSubtype (.type "bool") (.type T) = pure true) : Ans c σ (.bool i) "bool" T true := fun ρ g as s x I r => by cases r; exact ⟨rfl, Answers.of_true hty hsub⟩
theorem Ans.listT {i : Nat} {vs : List V} (h : σ[i]? = some (.list vs)) : Ans c σ (.ref i) "list" "list" true := fun ρ g as s x I r => by
  obtain ⟨a, ob, rfl, ho, hc⟩ := I.cell h r
  cases hc
  exact ⟨⟨_, ho, rfl⟩, Answers.of_true F.isi_meta_list (by rw [isSubtype_type]; kernel_rfl)⟩
theorem Ans.listF {i : Nat} {vs : List V} {T : String} (h : σ[i]? = some (.list vs)) (hne : (Value.type "list" == Value.type T) = false) (hty : typeOf (.type T) = pure (.type "type")) (hsub : isSubtype (.type "list") (.type T) = pure false) : Ans c σ (.ref i) "list" T false := fun ρ g as s x I r => by
  obtain ⟨a, ob, rfl, ho, hc⟩ := I.cell h r
  cases hc
  exact ⟨⟨_, ho, rfl⟩, Answers.of_false_list hne hty hsub⟩
theorem Ans.tupT {i : Nat} {vs : List V} (h : σ[i]? = some (.tuple vs)) : Ans c σ (.ref i) "tuple" "tuple" true := fun ρ g as s x I r => by
  obtain ⟨a, ob, rfl, ho, hc⟩ := I.cell h r
  cases hc
  exact ⟨⟨_, ho, rfl⟩, Answers.of_true F.isi_meta_tuple (by rw [isSubtype_type]; kernel_rfl)⟩
theorem Ans.tupF {i : Nat} {vs : List V} {T : String} (h : σ[i]? = some (.tuple vs)) (hne : (Value.type "tuple" == Value.type T) = false) (hty : typeOf (.type T) = pure (.type "type")) (hsub : isSubtype (.type "tuple") (.type T) = pure false) : Ans c σ (.ref i) "tuple" T false := fun ρ g as s x I r => by
  obtain ⟨a, ob, rfl, ho, hc⟩ := I.cell h r
  cases hc
  exact ⟨⟨_, ho, rfl⟩, Answers.of_false_tuple hne hty hsub⟩

theorem Cl.isi {v : V} {Tx T : String} {b : Bool} (h : Ans c σ v Tx T b) : Cl c σ (.builtin "isinstance") [v, .ty T] [] [] (.val (.bool b) σ) := fun ρ g as s xs ys I r1 r2 Q E K => by
  cases r1 with
  | cons ra r1 =>
  cases r1 with
  | cons rb r1 =>
  cases r1; cases r2; cases rb
  obtain ⟨hT, ha⟩ := h ρ g as s _ I ra
  refine call_isinstance (S := fun _ R s => s.TypeIs _ Tx ∧ ∀ tk', R (.ok (.ret (.bool b))) { s with toks := tk' }) (fun _ _ _ _ _ hs => isinstance_outer (ha 0 0 _ _ _ _ _ ⟨hs.1, hs.2⟩) (Shared.TypeIs.not_mainsLoader hs.1)) ⟨hT, fun tk' => ?_⟩
  exact K g as _ _ .refl .refl (I.tok tk') (.bool b)
def AnsAll (c : Cx) (σ : List Cell) (v : V) (Tx : String) : List String → List Bool → Prop
  | [], [] => True
  | T :: Ts, b :: bs => Ans c σ v Tx T b ∧ AnsAll c σ v Tx Ts bs
  | _, _ => False
theorem AnsAll.get {v : V} {Tx : String} {g : Heap} {as : List Nat} {s : Shared} {x : Value} (I : Inv c g as ρ σ s) (r : Rep as v x) : ∀ {Ts : List String} {bs : List Bool}, AnsAll c σ v Tx Ts bs → AnswersAll (fun s => s.TypeIs x Tx) x (Ts.map Value.type) bs
  | [], [], _ => trivial
  | T :: Ts, b :: bs, h => ⟨(h.1 ρ g as s x I r).2, AnsAll.get I r h.2⟩
  | [], _ :: _, h => h.elim
  | _ :: _, [], h => h.elim
theorem tys_of {as : List Nat} : ∀ {Ts : List String} {xs : List Value}, RepAll as (Ts.map V.ty) xs → xs = Ts.map Value.type
  | [], _, h => by cases h; rfl
  | T :: Ts, _, h => by
    cases h with
    | cons a r => cases a; rw [tys_of r]; rfl
theorem Cl.isiT {v : V} {Tx : String} {Ts : List String} {bs : List Bool} {b : Bool} {i : Nat} (hi : σ[i]? = some (.tuple (Ts.map V.ty))) (hT : ∀ ρ g as s x, Inv c g as ρ σ s → Rep as v x → s.TypeIs x Tx) (h : AnsAll c σ v Tx Ts bs) (hb : bs.any id = b) : Cl c σ (.builtin "isinstance") [v, .ref i] [] [] (.val (.bool b) σ) := fun ρ g as s xs ys I r1 r2 Q E K => by
  cases r1 with
  | cons ra r1 =>
  cases r1 with
  | cons rb r1 =>
  cases r1; cases r2
  obtain ⟨a, ob, rfl, ho, hc⟩ := I.cell hi rb
  cases hc with
  | tuple rs =>
  have e := tys_of rs
  subst e
  refine call_isinstance (isinstance_tuple (Tx := Tx) (h.get I ra)) ⟨hT ρ g as s _ I ra, ho, fun tk => ?_⟩
  rw [hb]
  exact K g as _ _ .refl .refl (I.tok tk) (.bool b)
end
end Mine

/-! B10 -/
namespace Mine
section
variable {c : Cx} {ρ : Loc} {σ σ₁ σ₂ σ₃ : List Cell} {o : Res}

theorem intText : ∀ n : Nat, n < 1001 → (PySem.Str.ofString (toString (n : Int))).length ≤ 4 := by decide +kernel

/-! texts of which the length alone is asked -/
theorem Ev.txt {e : PySem.Expr} {x : PySem.Str} {n : Nat} (h : Ev c ρ σ e (.val (.str x) σ₁)) (hn : x.length ≤ n) : Ev c ρ σ e (.val (.txt n) σ₁) := fun g as s I Q E K =>
  h.val I fun g₁ as₁ s₁ a t₁ x₁ I₁ ra => by
    cases ra
    exact K g₁ as₁ s₁ _ t₁ x₁ I₁ (.txt _ _ _ hn)
theorem Ev.fmtI {value : PySem.Expr} {pos : Pos} {i : Nat} (h : Ev c ρ σ value (.val (.int i) σ₁)) (hi : i < 1001) : Ev c ρ σ (.FormattedValue value (-1) none pos) (.val (.txt 4) σ₁) := fun g as s I Q E K =>
  FormattedValue_plain (h.val I fun g₁ as₁ s₁ a t₁ x₁ I₁ ra => by
    cases ra
    refine formatField_int_small ?_ (K g₁ as₁ _ _ t₁ x₁ (I₁.tok _) (.txt _ _ _ (intText i hi)))
    rw [Int.natAbs_natCast]
    by_cases h0 : i = 0
    · subst h0; decide
    · exact (Nat.log2_lt h0).mpr (Nat.lt_trans hi (by decide)))
theorem Ev.fmtT {value : PySem.Expr} {pos : Pos} {n : Nat} (h : Ev c ρ σ value (.val (.txt n) σ₁)) (hn : n ≤ 1000000) : Ev c ρ σ (.FormattedValue value (-1) none pos) (.val (.txt n) σ₁) := fun g as s I Q E K =>
  FormattedValue_plain (h.val I fun g₁ as₁ s₁ a t₁ x₁ I₁ ra => by
    cases ra with
    | txt _ x t hx =>
    exact formatField_str (fun t' tk => K g₁ as₁ _ _ t₁ x₁ (I₁.tok tk) (.txt _ _ _ hx)) (by rw [sizeLine_eq]; omega))
def Jn (c : Cx) (ρ : Loc) (σ : List Cell) (es : List PySem.Expr) (n : Nat) (σ' : List Cell) : Prop :=
  ∀ g as s (out : PySem.Str) (Q : Value → Shared → Prop) E, Inv c g as ρ σ s → out.length + n ≤ 1000000 → (∀ g' as' s' x t, Tn c g g' → Ext as as' → Inv c g' as' ρ σ' s' → x.length ≤ out.length + n → Q (.str x t) s') →
    wpAny (model PR c.w) c.A (joinParts out (evalEach es c.env)) Q E s
theorem Jn.nil : Jn c ρ σ [] 0 σ := fun g as s out Q E I hz k => joinParts_nil (k g as _ _ _ .refl .refl (I.tok _) (Nat.le_refl _)) (by rw [sizeLine_eq]; omega)
theorem Jn.cons {e : PySem.Expr} {r : List PySem.Expr} {n m : Nat} (h : Ev c ρ σ e (.val (.txt n) σ₁)) (q : Jn c ρ σ₁ r m σ₂) : Jn c ρ σ (e :: r) (n + m) σ₂ := fun g as s out Q E I hz k => by
  show wpAny _ _ (joinParts out (eval e c.env :: evalEach r c.env)) Q E s
  refine joinParts_cons (h.val I fun g₁ as₁ s₁ a t₁ x₁ I₁ ra => ?_)
  cases ra with
  | txt _ x t hx =>
  have hl : (out ++ x).length = out.length + x.length := strLen_append _ _
  refine ⟨by rw [hl, sizeLine_eq]; omega, q g₁ as₁ s₁ _ Q E I₁ (by omega) fun g₂ as₂ s₂ y u t₂ x₂ I₂ hy => k g₂ as₂ s₂ y u (t₁.trans t₂) (x₁.trans x₂) I₂ (by omega)⟩
theorem Ev.joined {e₁ e₂ : PySem.Expr} {r : List PySem.Expr} {pos : Pos} {n : Nat} (h : Jn c ρ σ (e₁ :: e₂ :: r) n σ₁) (hn : n ≤ 1000000) : Ev c ρ σ (.JoinedStr (e₁ :: e₂ :: r) pos) (.val (.txt n) σ₁) := fun g as s I Q E K =>
  JoinedStr_many (h g as s PySem.Str.empty Q E I (by show 0 + n ≤ _; omega) fun g₁ as₁ s₁ x t t₁ x₁ I₁ hx => K g₁ as₁ s₁ _ t₁ x₁ I₁ (.txt _ _ _ (by have : PySem.Str.empty.length = 0 := rfl; omega)))
theorem Ev.joined1 {e₁ : PySem.Expr} {pos : Pos} {v : V} (h : Ev c ρ σ e₁ (.val v σ₁)) : Ev c ρ σ (.JoinedStr [e₁] pos) (.val v σ₁) := fun g as s I Q E K => JoinedStr_one (h g as s I Q E K)
theorem Op2.iaddT {n m : Nat} (h : n + m ≤ 16777216) : Op2 c σ (.txt n) (.txt m) (inplaceOp .Add) (.val (.txt (n + m)) σ) := fun ρ g as s a b I r1 r2 Q E K => by
  cases r1 with
  | txt _ x t hx =>
  cases r2 with
  | txt _ y u hy =>
  refine Op2.iaddS (c := c) (σ := σ) (x := x) (y := y) (by omega) ρ g as s _ _ I (.str x t) (.str y u) Q E fun g' as' s' z t' x' I' rz => ?_
  cases rz with
  | str _ v => exact K g' as' s' _ t' x' I' (.txt _ _ _ (by rw [strLen_append]; omega))

/-! str -/
theorem Cl.strI {i : Nat} (hi : i < 1001) : Cl c σ (.type "str") [.int i] [] [] (.val (.txt 4) σ) := fun ρ g as s xs ys I r1 r2 Q E K => by
  cases r1 with
  | cons ra r1 =>
  cases r1; cases r2; cases ra with
  | int _ t =>
  refine PySem.P.str_of_int ?_ (K g as _ _ .refl .refl (I.tok _) (.txt _ _ _ (intText i hi)))
  rw [Int.natAbs_natCast]
  by_cases h0 : i = 0
  · subst h0; decide
  · exact (Nat.log2_lt h0).mpr (Nat.lt_trans hi (by decide))
theorem listText : ∀ n : Nat, n < 400 → (PyData.list [.int ((n + 2 : Nat) : Int), .int ((n + 1 : Nat) : Int)]).shown.length ≤ 20 := by decide +kernel
theorem log_small {n : Nat} (h : n < 1001) : n.log2 < 1920 := by
  by_cases h0 : n = 0
  · subst h0; decide
  · exact (Nat.log2_lt h0).mpr (Nat.lt_trans h (by decide))
theorem listShow {n : Nat} (hn : n < 400) : (PyData.list [.int ((n + 2 : Nat) : Int), .int ((n + 1 : Nat) : Int)]).showable = true := by
  have h1 := log_small (n := n + 2) (by omega)
  have h2 := log_small (n := n + 1) (by omega)
  simp only [PyData.showable, PyData.showableAll, Int.natAbs_natCast]
  simp [h1, h2]
theorem Cl.strL {i n : Nat} (h : σ[i]? = some (.list [.int ((n + 2 : Nat) : Int), .int ((n + 1 : Nat) : Int)])) (hn : n < 400) (O : c.Ok) : Cl c σ (.type "str") [.ref i] [] [] (.val (.txt 20) σ) := fun ρ g as s xs ys I r1 r2 Q E K => by
  cases r1 with
  | cons ra r1 =>
  cases r1; cases r2
  obtain ⟨a, ob, rfl, ho, hc⟩ := I.cell h ra
  cases hc with
  | list k rs =>
  cases rs with
  | cons q1 rs =>
  cases rs with
  | cons q2 rs =>
  cases rs; cases q1; cases q2
  rename_i u v
  have hu := O.hu
  have r : Reads s.heap (.ref a) (.list [.int ((n + 2 : Nat) : Int), .int ((n + 1 : Nat) : Int)]) [a] := by
    have := Reads.list (h := s.heap) (vs := [Value.int ((n + 2 : Nat) : Int) u, Value.int ((n + 1 : Nat) : Int) v].toArray) ho rfl rfl (.cons (.int _ _) (.cons (.int _ _) .nil))
    simpa using this
  have hd : (PyData.list [.int ((n + 2 : Nat) : Int), .int ((n + 1 : Nat) : Int)]).depth ≤ 10 := by simp [PyData.depth, PyData.depthAll]
  have hcl : cLine = 9900 := rfl
  have hun : c.A.units = c.A₀.units + 3 := rfl
  refine str_of_reads (A := c.A) r (listShow hn) (fun e => by simp [PyData.hasDict, PyData.hasDictAll] at e) O.hg (by rw [hcl, hun]; omega) (fun _ _ e => e) (fun h' u' tk hk => ?_) (Nat.le_trans (listText n hn) (by rw [sizeLine_eq]; decide))
  exact K g as _ _ .refl .refl (I.grow hk) (.txt _ _ _ (listText n hn))

/-! type(x).__name__ -/
theorem Cl.typeOf {v : V} {Tx : String} (hT : ∀ ρ g as s x, Inv c g as ρ σ s → Rep as v x → s.TypeIs x Tx) (hnb : (Value.type Tx == Value.type "builtin_function_or_method") = false) : Cl c σ (.type "type") [v] [] [] (.val (.ty Tx) σ) := fun ρ g as s xs ys I r1 r2 Q E K => by
  cases r1 with
  | cons ra r1 =>
  cases r1; cases r2
  exact call_type_of (hT ρ g as s _ I ra) hnb (K g as _ _ .refl .refl I (.ty _))
theorem Ev.tyName {e : PySem.Expr} {pos : Pos} {T q : String} (h : Ev c ρ σ e (.val (.ty T) σ₁)) (O : c.Ok) (ht : kitMeta T = true) (hs : Manifest.isStub T = false)
    (e0 : findCls (hd.heap_39 c.w.params) (.type T) (.type "type") "__name__" = some (.get (.builtin "getset_descriptor.__get__") (.builtin "type.__name__") (.type T) (.type "type"))) (hq : ktynFast T = q) (hz : (PySem.Str.ofString q).length ≤ 30)
    (hb : attributeBase e "__name__" c.env (eval e c.env) = eval e c.env) : Ev c ρ σ (.Attribute e "__name__" pos) (.val (.txt 30) σ₁) := fun g as s I Q E K => by
  rw [arm_eval_Attribute, hb]
  refine wpAny_bind (h.val I fun g₁ as₁ s₁ a t₁ x₁ I₁ ra => ?_)
  cases ra
  refine wpAny_bind (wpAny_standAt (wpAny_bind (wpAny_holding ?_)))
  obtain ⟨m, led, F, N⟩ := I₁.fr
  refine ktyn_attr (K := hd.heap_39 c.w.params) F (I₁.X O) ht hs e0 hq (by rw [sizeLine_eq]; omega) fun tk u => ?_
  refine wpAny_bind (wpAny_of_eq (noTemp (by intro b e; cases e)) (wpAny_pure ?_))
  exact K g₁ as₁ _ _ t₁ x₁ (I₁.tok u) (.txt _ _ _ hz)
theorem name_int (w : World) : findCls (hd.heap_39 w.params) (.type "int") (.type "type") "__name__" = some (.get (.builtin "getset_descriptor.__get__") (.builtin "type.__name__") (.type "int") (.type "type")) := by k_is
theorem name_str (w : World) : findCls (hd.heap_39 w.params) (.type "str") (.type "type") "__name__" = some (.get (.builtin "getset_descriptor.__get__") (.builtin "type.__name__") (.type "str") (.type "type")) := by k_is
theorem name_bool (w : World) : findCls (hd.heap_39 w.params) (.type "bool") (.type "type") "__name__" = some (.get (.builtin "getset_descriptor.__get__") (.builtin "type.__name__") (.type "bool") (.type "type")) := by k_is
theorem name_list (w : World) : findCls (hd.heap_39 w.params) (.type "list") (.type "type") "__name__" = some (.get (.builtin "getset_descriptor.__get__") (.builtin "type.__name__") (.type "list") (.type "type")) := by k_is
end
end Mine

/-! B11 -/
namespace Mine
section
open Builtin
theorem forIn_range {α : Type} (n : Nat) (s : α) (f : Nat → α → Sem (ForInStep α)) : forIn (m := Sem) [0:n] s f = forIn (List.range n) s f := by
  rw [Std.Legacy.Range.forIn_eq_forIn_range']
  simp [Std.Legacy.Range.size, List.range_eq_range']
theorem loop_pure {α : Type} (f : Nat → α → Sem (ForInStep α)) (S : Nat → α) (n : Nat) (h : ∀ i, i < n → ∀ x, f x (S i) = pure (.yield (S (i + 1)))) : forIn (m := Sem) (List.range n) (S 0) f = pure (S n) := by
  have go : ∀ (l : List Nat) (i : Nat), i + l.length = n → forIn (m := Sem) l (S i) f = pure (S n) := by
    intro l
    induction l with
    | nil => intro i hi; have : i = n := by simpa using hi
             subst this; rfl
    | cons a l ih =>
      intro i hi
      simp at hi
      rw [List.forIn_cons, h i (by omega) a]
      exact ih (i + 1) (by omega)
  exact go _ 0 (by simp)
theorem dec_all (id : String) (b : List UInt8) (hb : ∀ x ∈ b, x.toNat < 128) (hz : b.length ≤ 16777216) : _codecs.runDecoder id _codecs.asciiDecoder none true b.toArray 0 [] = pure ((b.map fun x => x.toNat).toArray, b.length) := by
  unfold _codecs.runDecoder
  simp only [forIn_range]
  let S : Nat → Nat × Array Nat × _codecs.Faults := fun i => (i, ((b.take i).map fun x => x.toNat).toArray, {})
  have e0 : ((0 : Nat), (#[] : Array Nat), ({} : _codecs.Faults)) = S 0 := by simp [S]
  have e1 : b.toArray.size = b.length := by simp
  rw [e0, e1, loop_pure _ S b.length]
  · simp only [S, List.take_length]
    rfl
  · intro i hi x
    have hs : ¬ ((S i).2.1.size > sizeLine) := by simp [S, sizeLine_eq]; omega
    have h2 : ¬ ((S i).1 ≥ b.length) := by show ¬ (i ≥ b.length); omega
    rw [if_neg hs, if_neg h2]
    have hg : b.toArray.getD i 0 = b[i] := by simp [hi]
    have hf : _codecs.asciiDecoder.find true b.toArray (S i).1 = .text [b[i].toNat] (i + 1) := by
      show (let c := (b.toArray.getD i 0).toNat; if c < 128 then _codecs.Found.char c (i + 1) else _) = _
      rw [hg]
      exact if_pos (hb _ (List.getElem_mem hi))
    rw [hf]
    have : (S i).2.1 ++ [b[i].toNat].toArray = (S (i + 1)).2.1 := by
      have e : (b.take (i + 1)).map (fun x => x.toNat) = (b.take i).map (fun x => x.toNat) ++ [b[i].toNat] := by
        rw [List.take_add_one, List.getElem?_eq_getElem hi, List.map_append]
        rfl
      show ((b.take i).map (fun x => x.toNat)).toArray ++ [b[i].toNat].toArray = ((b.take (i + 1)).map (fun x => x.toNat)).toArray
      rw [e, List.append_toArray]
    show pure (ForInStep.yield (i + 1, (S i).2.1 ++ [b[i].toNat].toArray, _)) = _
    rw [this]
theorem dec_road {id : String} {b : Array UInt8} : _codecs.decodeRoad id b (PySem.Str.ofString "ascii") none [] = (_codecs.runDecoder id _codecs.asciiDecoder none true b 0 [] >>= fun r => mkStr ⟨r.1⟩) := by kernel_rfl
def asS (b : List UInt8) : PySem.Str := ⟨(b.map fun x => x.toNat).toArray⟩
theorem asS_length (b : List UInt8) : (asS b).length = b.length := by simp [asS, PySem.Str.length]
theorem meets_ascii {b : List UInt8} {t t1 t2 : Tok} {d : PySem.Str} (hb : ∀ x ∈ b, x.toNat < 128) (hz : b.length ≤ 16777216) :
    Meets («_codecs.decode.text» ⟨[.bytes b.toArray t, .str (PySem.Str.ofString "ascii") t1, .none, .str d t2], []⟩) (fun _ R s => R (.ok (.ret (.str (asS b) s.toks))) { s with toks := s.toks + 1 }) := by
  refine .of_wp fun prog w A R s h => ?_
  show wpAny _ _ (Bytes.bytesLike _ (.bytes b.toArray t) >>= fun r => _) _ _ s
  refine wpAny_bind (wpAny_of_eq KBd.like_eq ?_)
  refine wpAny_bind (wpAny_of_eq KBd.held_eq ?_)
  show wpAny _ _ (_codecs.decodeRoad _ b.toArray (PySem.Str.ofString "ascii") none [] >>= fun v => _) _ _ s
  rw [dec_road, dec_all _ b hb hz]
  refine wpAny_bind (wpAny_bind (wpAny_pure ?_))
  exact wpAny_mkStr (wpAny_pure ⟨_, rfl, h⟩) (by show (asS b).length ≤ _; rw [asS_length, sizeLine_eq]; exact hz)
theorem dec_entry {c : UInt8} {cs : List UInt8} {t u : Tok} : «bytes.decode» ⟨[.bytes (c :: cs).toArray t, .str (PySem.Str.ofString "ascii") u], []⟩ = (mkStr (PySem.Str.ofString "utf-8") >>= fun _ => mkStr (PySem.Str.ofString "ascii") >>= fun e => mkStr (PySem.Str.ofString "bytes.decode") >>= fun d =>
    call (.builtin "_codecs.decode.text") [.bytes (c :: cs).toArray t, e, .none, d] >>= fun v => ret v) := by kernel_rfl
end
section
variable {c : Cx} {ρ : Loc} {σ σ₁ σ₂ σ₃ : List Cell} {o : Res}
theorem Cl.decode {b : List UInt8} (hb : ∀ x ∈ b, x.toNat < 128) (hz : b.length ≤ 16777216) (h0 : b ≠ []) : Cl c σ (.builtin "bytes.decode") [.bytes b, .str "ascii"] [] [] (.val (.str (asS b)) σ) := fun ρ g as s xs ys I r1 r2 Q E K => by
  cases r1 with
  | cons ra r1 =>
  cases r1 with
  | cons rb r1 =>
  cases r1; cases r2; cases ra with
  | bytes _ t =>
  cases rb with
  | str _ u =>
  cases b with
  | nil => exact absurd rfl h0
  | cons ch cs =>
  refine wpAny_call_entry FB.slot_bytes_decode (typeIs_bytes _ _ _) FB.entry_bytes_decode ?_ (BF.args_decode _ _)
  rw [dec_entry]
  refine wpAny_bind (wpAny_mkStr ?_ (by decide))
  refine wpAny_bind (wpAny_mkStr ?_ (by decide))
  refine wpAny_bind (wpAny_mkStr ?_ (by decide))
  refine wpAny_bind (call_function_meets KBd.kind_text KBd.plain_text KBd.entry_text (KBd.args_text _ _ _ _) (meets_ascii hb hz) ?_)
  exact wpAny_pure ⟨_, rfl, K g as _ _ .refl .refl (I.tok _) (.str _ _)⟩
end
end Mine

/-! B12 -/
namespace Mine
section
open Builtin
theorem loop_two {α : Type} (f : Nat → α → Sem (ForInStep α)) (n : Nat) (s0 s1 : α) (h0 : ∀ x, f x s0 = pure (.yield s1)) (h1 : ∀ x, f x s1 = pure (.done s1)) : forIn (m := Sem) (List.range (n + 1)) s0 f = pure s1 := by
  rw [List.range_succ_eq_map, List.forIn_cons, h0]
  show forIn (m := Sem) ((List.range n).map Nat.succ) s1 f = _
  cases n with
  | zero => rfl
  | succ n =>
    rw [List.range_succ_eq_map, List.map_cons, List.forIn_cons, h1]
    rfl
theorem enc_fold (b : List UInt8) : ∀ acc : Array UInt8, Array.foldl (fun acc y => acc ++ (_codecs.asciiCodec.bytesOf y).toArray) acc (b.map fun x => x.toNat).toArray = acc ++ b.toArray := by
  induction b with
  | nil => intro acc; simp
  | cons x r ih =>
    intro acc
    have h := ih (acc ++ (_codecs.asciiCodec.bytesOf x.toNat).toArray)
    simp only [List.foldl_toArray] at h ⊢
    rw [List.map_cons, List.foldl_cons, h]
    have : (_codecs.asciiCodec.bytesOf x.toNat) = [x] := by
      show [x.toNat.toUInt8] = [x]
      simp
    rw [this]
    apply Array.toList_inj.mp
    simp
theorem enc_all (id : String) (self : Value) (b : List UInt8) (hb : ∀ x ∈ b, x.toNat < 128) (hz : b.length ≤ 16777216) : _codecs.encodeNarrow id _codecs.asciiCodec none self (asS b) = pure b.toArray := by
  unfold _codecs.encodeNarrow
  simp only [forIn_range]
  rw [asS_length]
  cases b with
  | nil => rfl
  | cons x r =>
    have hc : (asS (x :: r)).cps = ((x :: r).map fun y => y.toNat).toArray := rfl
    have hx : (asS (x :: r)).cps[0]? = some x.toNat := by rw [hc]; rfl
    have he : (asS (x :: r)).cps.extract 0 = (asS (x :: r)).cps := by simp
    have hf : Array.findIdx? _codecs.asciiCodec.bad (asS (x :: r)).cps = none := by
      rw [Array.findIdx?_eq_none_iff]
      intro y hy
      rw [hc] at hy
      simp only [List.mem_toArray, List.mem_map] at hy
      obtain ⟨z, hz', rfl⟩ := hy
      show decide (z.toNat ≥ 128) = false
      have := hb z hz'
      simp; omega
    have hbad : _codecs.asciiCodec.bad x.toNat = false := by
      show decide (x.toNat ≥ 128) = false
      have := hb x (.head _)
      simp; omega
    have hsz : (asS (x :: r)).cps.size = (x :: r).length := by rw [hc]; simp
    rw [show (x :: r).length = r.length + 1 from rfl, loop_two _ _ _ ((x :: r).length, (x :: r).toArray, ({} : _codecs.Faults))]
    · rfl
    · intro y
      dsimp only
      rw [if_neg (show ¬ ((#[] : Array UInt8).size > sizeLine) by simp), hx]
      dsimp only
      rw [hbad, if_pos (show (!false) = true from rfl), he, hf]
      dsimp only [Option.getD_none]
      have h1 : (asS (x :: r)).cps.extract 0 (asS (x :: r)).cps.size = (asS (x :: r)).cps := by simp
      have h2 : Array.foldl (fun acc y => acc ++ (_codecs.asciiCodec.bytesOf y).toArray) #[] (asS (x :: r)).cps = (x :: r).toArray := by
        rw [hc, enc_fold, Array.empty_append]
      have h3 : (asS (x :: r)).cps.extract 0 (x :: r).length = (asS (x :: r)).cps := by rw [← hsz]; exact h1
      rw [← hsz] at h3 ⊢
      simp only [Nat.zero_add, h3, h2]
    · intro y
      dsimp only
      rw [if_neg (show ¬ ((x :: r).toArray.size > sizeLine) by rw [sizeLine_eq]; simp at hz ⊢; omega)]
      have : (asS (x :: r)).cps[(x :: r).length]? = none := by rw [hc]; simp
      rw [this]
theorem enc_road {id : String} {self : Value} {s : PySem.Str} : _codecs.encodeRoad id self s (PySem.Str.ofString "ascii") none = (_codecs.encodeNarrow id _codecs.asciiCodec none self s >>= fun b => mkBytes b) := by kernel_rfl
theorem enc_entry {x : PySem.Str} {t u : Tok} : «str.encode» ⟨[.str x t, .str (PySem.Str.ofString "ascii") u], []⟩ = (_codecs.encodeRoad "str.encode" (.str x t) x (PySem.Str.ofString "ascii") none >>= fun v => ret v) := by kernel_rfl
end
section
variable {c : Cx} {ρ : Loc} {σ σ₁ σ₂ σ₃ : List Cell} {o : Res}
theorem Meth.encode {x : PySem.Str} : Meth c σ (.str x) "encode" "str.encode" := fun ρ g as s a pl Q E I r k => by
  cases r
  exact getMethod_builtin (typeIs_str _ _ _) F.plainAttrs_str BF.slot_encode BF.type_encode (fun a e => by cases e) k
theorem Cl.encode {b : List UInt8} (hb : ∀ x ∈ b, x.toNat < 128) (hz : b.length ≤ 16777216) : Cl c σ (.builtin "str.encode") [.str (asS b), .str "ascii"] [] [] (.val (.bytes b) σ) := fun ρ g as s xs ys I r1 r2 Q E K => by
  cases r1 with
  | cons ra r1 =>
  cases r1 with
  | cons rb r1 =>
  cases r1; cases r2; cases ra with
  | str _ t =>
  cases rb with
  | str _ u =>
  refine wpAny_call_entry BF.slot_encode (typeIs_str _ _ _) BF.entry_encode ?_ (BF.args_encode _ _)
  rw [enc_entry, enc_road, enc_all _ _ b hb hz]
  refine wpAny_bind (wpAny_bind (wpAny_pure (wpAny_mkBytes (wpAny_pure ⟨_, rfl, K g as _ _ .refl .refl (I.tok _) (.bytes _ _)⟩) ?_)))
  rw [sizeLine_eq]
  simpa using hz
end
end Mine

/-! E1 -/
namespace Mine

/-- what is known of a call of a def -/
structure Fn (c : Cx) (nm : List (PySem.Str × NameKind)) (d k : Nat) (tn : Bool) : Prop where
  O : c.Ok
  hs : c.scope.names = nm
  hd : c.d = d
  hk : c.k = k
  ht : c.tn = tn
/-- a built-in name -/
structure Bt (x : PySem.Str) (f : V) (fv : Value) : Prop where
  hn : ∀ w : World, nsIn (hd.heap_39 w.params) mainGlobals x = some none
  hv : bootBuiltins x = some fv
  hr : Rep [] f fv
  hr' : ∀ as y, Rep as f y → y = fv
  hk : ∀ c, Keep c fv
  h1 : x ≠ "__name__"
  h2 : (x == ("__debug__" : PySem.Str)) = false
theorem bt_len : Bt "len" (.bi "len") (.builtin "len") := ⟨fun w => by k_is, by decide +kernel, .bi _, rep_bi, fun c => Keep.bi, by decide, by decide⟩
theorem bt_isinstance : Bt "isinstance" (.bi "isinstance") (.builtin "isinstance") := ⟨fun w => by k_is, by decide +kernel, .bi _, rep_bi, fun c => Keep.bi, by decide, by decide⟩
theorem bt_divmod : Bt "divmod" (.bi "divmod") (.builtin "divmod") := ⟨fun w => by k_is, by decide +kernel, .bi _, rep_bi, fun c => Keep.bi, by decide, by decide⟩
theorem bt_bytes : Bt "bytes" (.ty "bytes") (.type "bytes") := ⟨fun w => by k_is, by decide +kernel, .ty _, rep_ty, fun c => Keep.ty, by decide, by decide⟩
theorem bt_bytearray : Bt "bytearray" (.ty "bytearray") (.type "bytearray") := ⟨fun w => by k_is, by decide +kernel, .ty _, rep_ty, fun c => Keep.ty, by decide, by decide⟩
theorem bt_memoryview : Bt "memoryview" (.ty "memoryview") (.type "memoryview") := ⟨fun w => by k_is, by decide +kernel, .ty _, rep_ty, fun c => Keep.ty, by decide, by decide⟩
theorem bt_str : Bt "str" (.ty "str") (.type "str") := ⟨fun w => by k_is, by decide +kernel, .ty _, rep_ty, fun c => Keep.ty, by decide, by decide⟩
theorem bt_int : Bt "int" (.ty "int") (.type "int") := ⟨fun w => by k_is, by decide +kernel, .ty _, rep_ty, fun c => Keep.ty, by decide, by decide⟩
theorem bt_bool : Bt "bool" (.ty "bool") (.type "bool") := ⟨fun w => by k_is, by decide +kernel, .ty _, rep_ty, fun c => Keep.ty, by decide, by decide⟩
theorem bt_list : Bt "list" (.ty "list") (.type "list") := ⟨fun w => by k_is, by decide +kernel, .ty _, rep_ty, fun c => Keep.ty, by decide, by decide⟩
theorem bt_tuple : Bt "tuple" (.ty "tuple") (.type "tuple") := ⟨fun w => by k_is, by decide +kernel, .ty _, rep_ty, fun c => Keep.ty, by decide, by decide⟩
theorem bt_range : Bt "range" (.ty "range") (.type "range") := ⟨fun w => by k_is, by decide +kernel, .ty _, rep_ty, fun c => Keep.ty, by decide, by decide⟩
theorem bt_type : Bt "type" (.ty "type") (.type "type") := ⟨fun w => by k_is, by decide +kernel, .ty _, rep_ty, fun c => Keep.ty, by decide, by decide⟩
/-- a def of the top -/
structure Gf (x : PySem.Str) (a : Nat) : Prop where
  e : ∀ w : World, nsIn (hd.heap_39 w.params) mainGlobals x = some (some (.ref a))
  k : ∀ w : World, keepIn (hd.heap_39 w.params) (.ref a) = true
  h2 : (x == ("__debug__" : PySem.Str)) = false
theorem gf_bytes_from_octets : Gf "bytes_from_octets" 59 := ⟨fun w => by k_is, fun w => by k_is, by decide⟩
theorem gf_message_text : Gf "_message_text" 66 := ⟨fun w => by k_is, fun w => by k_is, by decide⟩
theorem gf_is_integer : Gf "is_integer" 73 := ⟨fun w => by k_is, fun w => by k_is, by decide⟩
theorem gf_mixed : Gf "_mixed" 80 := ⟨fun w => by k_is, fun w => by k_is, by decide⟩
theorem gf_sha256 : Gf "sha256" 87 := ⟨fun w => by k_is, fun w => by k_is, by decide⟩
theorem gf_hash256 : Gf "hash256" 94 := ⟨fun w => by k_is, fun w => by k_is, by decide⟩
theorem gf_b58encode_from_int : Gf "_b58encode_from_int" 101 := ⟨fun w => by k_is, fun w => by k_is, by decide⟩
theorem gf_b58encode : Gf "_b58encode" 108 := ⟨fun w => by k_is, fun w => by k_is, by decide⟩
theorem gf_encode : Gf "encode" 116 := ⟨fun w => by k_is, fun w => by k_is, by decide⟩
theorem gf_b58decode_to_int : Gf "_b58decode_to_int" 123 := ⟨fun w => by k_is, fun w => by k_is, by decide⟩
theorem gf_b58decode : Gf "_b58decode" 130 := ⟨fun w => by k_is, fun w => by k_is, by decide⟩
theorem gf_decode : Gf "decode" 138 := ⟨fun w => by k_is, fun w => by k_is, by decide⟩
theorem gf_ascii_bytes : Gf "_ascii_bytes" 145 := ⟨fun w => by k_is, fun w => by k_is, by decide⟩
theorem gf_decode_ : Gf "_decode" 152 := ⟨fun w => by k_is, fun w => by k_is, by decide⟩
theorem gf_law_written : Gf "_law_written" 159 := ⟨fun w => by k_is, fun w => by k_is, by decide⟩
theorem gf_law_read : Gf "_law_read" 166 := ⟨fun w => by k_is, fun w => by k_is, by decide⟩
theorem gf_law_told : Gf "_law_told" 173 := ⟨fun w => by k_is, fun w => by k_is, by decide⟩
theorem gf_law_refused : Gf "_law_refused" 180 := ⟨fun w => by k_is, fun w => by k_is, by decide⟩
theorem gf_law_is_kind : Gf "_law_is_kind" 187 := ⟨fun w => by k_is, fun w => by k_is, by decide⟩
theorem gf_law_payload : Gf "_law_payload" 194 := ⟨fun w => by k_is, fun w => by k_is, by decide⟩
theorem gf_law_turned : Gf "_law_turned" 201 := ⟨fun w => by k_is, fun w => by k_is, by decide⟩
theorem gf_law_whole : Gf "_law_whole" 208 := ⟨fun w => by k_is, fun w => by k_is, by decide⟩
/-- a constant of the top -/
structure Gc (x : PySem.Str) (v : V) : Prop where
  e : ∀ w : World, ∃ val, nsIn (hd.heap_39 w.params) mainGlobals x = some (some val) ∧ Rep [] v val
  h2 : (x == ("__debug__" : PySem.Str)) = false
theorem gc_mixed_by : Gc "_MIXED_BY" (.int 115792089237316195423570985008687907853269984665640564039457584007913129639747) := ⟨fun w => ⟨_, by k_is, .int _ _⟩, by decide⟩
theorem gc_base : Gc "BASE_base58" (.int 58) := ⟨fun w => ⟨_, by k_is, .int _ _⟩, by decide⟩
theorem gc_chunk : Gc "_CHUNK" (.int 10) := ⟨fun w => ⟨_, by k_is, .int _ _⟩, by decide⟩
theorem gc_chunk_base : Gc "_CHUNK_BASE" (.int 430804206899405824) := ⟨fun w => ⟨_, by k_is, .int _ _⟩, by decide⟩
theorem gc_max : Gc "MAX_LENGTH" (.int 112) := ⟨fun w => ⟨_, by k_is, .int _ _⟩, by decide⟩
def alpha : List UInt8 := [49, 50, 51, 52, 53, 54, 55, 56, 57, 65, 66, 67, 68, 69, 70, 71, 72, 74, 75, 76, 77, 78, 80, 81, 82, 83, 84, 85, 86, 87, 88, 89, 90, 97, 98, 99, 100, 101, 102, 103, 104, 105, 106, 107, 109, 110, 111, 112, 113, 114, 115, 116, 117, 118, 119, 120, 121, 122]
theorem gc_alpha : Gc "_ALPHABET" (.bytes alpha) := ⟨fun w => ⟨_, by k_is, .bytes alpha _⟩, by decide⟩
theorem gc_signs : Gc "_law_signs" (.bytes alpha) := ⟨fun w => ⟨_, by k_is, .bytes alpha _⟩, by decide⟩
/-- the two tables: digit i goes with sign i, all else is left -/
def charT : List UInt8 := alpha ++ (List.range 198).map fun i => UInt8.ofNat (i + 58)
def digT : List UInt8 := (List.range 256).map fun i => match alpha.idxOf? (UInt8.ofNat i) with | some j => UInt8.ofNat j | none => UInt8.ofNat i
end Mine

/-! E2 -/
namespace Mine
theorem rep_bytes_eq {as : List Nat} {b : List UInt8} {a : Array UInt8} {t : Tok} (h : b = a.toList) : Rep as (.bytes b) (.bytes a t) := by
  subst h
  have : a.toList.toArray = a := by simp
  have := Rep.bytes (as := as) a.toList t
  simpa using this
theorem gc_char : Gc "_CHAR_OF" (.bytes charT) := ⟨fun w => ⟨_, by k_is, rep_bytes_eq (by decide +kernel)⟩, by decide⟩
theorem gc_digit : Gc "_DIGIT_OF" (.bytes digT) := ⟨fun w => ⟨_, by k_is, rep_bytes_eq (by decide +kernel)⟩, by decide⟩

abbrev Names := List (PySem.Str × NameKind)
section
variable {c : Cx} {ρ ρ' : Loc} {σ σ₁ σ₂ σ₃ σ₄ : List Cell} {o : Res} {nm : Names} {d k : Nat} {tn : Bool}
theorem Ev.loc {x : PySem.Str} {pos : Pos} {v : V} (F : Fn c nm d k tn) (h : ρ.lookup x = some v := by rfl) (hl : nm.lookup x = some .local := by rfl) (h2 : (x == ("__debug__" : PySem.Str)) = false := by decide) : Ev c ρ σ (.Name x pos) (.val v σ) :=
  Ev.local h F.O (by rw [F.hs]; exact hl) h2
theorem Ev.con {x : PySem.Str} {pos : Pos} {v : V} (F : Fn c nm d k tn) (G : Gc x v) (hl : nm.lookup x = some .globalImplicit := by rfl) : Ev c ρ σ (.Name x pos) (.val v σ) := by
  obtain ⟨val, e, r⟩ := G.e c.w
  exact Ev.global F.O e r (by rw [F.hs]; exact hl) G.h2
theorem Ev.bt {x : PySem.Str} {pos : Pos} {f : V} {fv : Value} (F : Fn c nm d k tn) (G : Bt x f fv) (hl : nm.lookup x = some .globalImplicit := by rfl) : Ev c ρ σ (.Name x pos) (.val f σ) :=
  Ev.boot F.O (G.hn c.w) G.hv G.hr (by rw [F.hs]; exact hl) G.h1 G.h2
theorem Ev.gf {x : PySem.Str} {pos : Pos} {a : Nat} (F : Fn c nm d k tn) (G : Gf x a) (hl : nm.lookup x = some .globalImplicit := by rfl) : Ev c ρ σ (.Name x pos) (.val (.fn a) σ) :=
  Ev.global F.O (G.e c.w) (.fn a) (by rw [F.hs]; exact hl) G.h2

/-- a built-in is called -/
theorem Ev.bc {x : PySem.Str} {np pos : Pos} {e : PySem.Expr} {es : List PySem.Expr} {ks : List Keyword} {f : V} {fv : Value} {vs us : List V} (F : Fn c nm d k tn) (G : Bt x f fv) (he : Evs c ρ σ pos (e :: es) vs σ₁) (hks : Kws c ρ σ₁ pos ks us σ₂)
    (ho : Cl c σ₂ fv vs ((backToKw pos (keywordEach ks c.env)).filterMap (·.1)) us o) (hl : nm.lookup x = some .globalImplicit := by rfl)
    (hn : starEach (e :: es) c.env = (false, eval e c.env) :: starEach es c.env := by rfl)
    (hp : ((backTo pos (starEach (e :: es) c.env)).any (·.1) || (backToKw pos (keywordEach ks c.env)).any (·.1.isNone)) = false := by rfl)
    (hall : (backToKw pos (keywordEach ks c.env)).all (·.1.isSome) = true := by rfl) : Ev c ρ σ (.Call (.Name x np) (e :: es) ks pos) o :=
  Ev.call F.O (Ev.bt F G hl) G.hr' (G.hk c) he hks ho hn hp hall
/-- a def is called -/
theorem Ev.fc {x : PySem.Str} {np pos : Pos} {e : PySem.Expr} {es : List PySem.Expr} {ks : List Keyword} {a : Nat} {vs us : List V} (F : Fn c nm d k tn) (G : Gf x a) (he : Evs c ρ σ pos (e :: es) vs σ₁) (hks : Kws c ρ σ₁ pos ks us σ₂)
    (ho : Cl c σ₂ (.ref a) vs ((backToKw pos (keywordEach ks c.env)).filterMap (·.1)) us o) (hl : nm.lookup x = some .globalImplicit := by rfl)
    (hn : starEach (e :: es) c.env = (false, eval e c.env) :: starEach es c.env := by rfl)
    (hp : ((backTo pos (starEach (e :: es) c.env)).any (·.1) || (backToKw pos (keywordEach ks c.env)).any (·.1.isNone)) = false := by rfl)
    (hall : (backToKw pos (keywordEach ks c.env)).all (·.1.isSome) = true := by rfl) : Ev c ρ σ (.Call (.Name x np) (e :: es) ks pos) o :=
  Ev.call F.O (Ev.gf F G hl) rep_fn (Keep.fn (G.k c.w)) he hks ho hn hp hall
theorem EvC.fc {x : PySem.Str} {np pos : Pos} {e : PySem.Expr} {es : List PySem.Expr} {ks : List Keyword} {a : Nat} {vs us : List V} (F : Fn c nm d k tn) (G : Gf x a) (he : Evs c ρ σ pos (e :: es) vs σ₁) (hks : Kws c ρ σ₁ pos ks us σ₂)
    (ho : ClC c σ₂ (.ref a) vs ((backToKw pos (keywordEach ks c.env)).filterMap (·.1)) us o) (hl : nm.lookup x = some .globalImplicit := by rfl)
    (hn : starEach (e :: es) c.env = (false, eval e c.env) :: starEach es c.env := by rfl)
    (hp : ((backTo pos (starEach (e :: es) c.env)).any (·.1) || (backToKw pos (keywordEach ks c.env)).any (·.1.isNone)) = false := by rfl)
    (hall : (backToKw pos (keywordEach ks c.env)).all (·.1.isSome) = true := by rfl) : EvC c ρ σ (.Call (.Name x np) (e :: es) ks pos) o :=
  EvC.call F.O (Ev.gf F G hl) rep_fn (Keep.fn (G.k c.w)) he hks ho hn hp hall
/-- a class method of a type -/
theorem Ev.tc {x : PySem.Str} {np : Pos} {name : PySem.Str} {apos pos : Pos} {e : PySem.Expr} {es : List PySem.Expr} {ks : List Keyword} {T id : String} {fv : Value} {vs us : List V} {pl : Sem Bool} (F : Fn c nm d k tn) (G : Bt x (.ty T) fv) (hm : MethT c σ T name id)
    (he : Evs c ρ (σ ++ [.bnd id T]) pos (e :: es) vs σ₂) (hks : Kws c ρ σ₂ pos ks us σ₃) (hi : σ₃[σ.length]? = some (.bnd id T)) (ho : ClB c σ₃ id T vs ((backToKw pos (keywordEach ks c.env)).filterMap (·.1)) us o) (hl : nm.lookup x = some .globalImplicit := by rfl)
    (hq : eval (.Call (.Attribute (.Name x np) name apos) (e :: es) ks pos) c.env = (do
      let ov ← eval (.Name x np) c.env
      standAt apos.atName
      let (f, first) ← holding [ov] (getMethod ov name pl)
      callWith pos f first (backTo pos (starEach (e :: es) c.env)) (backToKw pos (keywordEach ks c.env))) := by rfl)
    (hn : starEach (e :: es) c.env = (false, eval e c.env) :: starEach es c.env := by rfl)
    (hp : ((backTo pos (starEach (e :: es) c.env)).any (·.1) || (backToKw pos (keywordEach ks c.env)).any (·.1.isNone)) = false := by rfl)
    (hall : (backToKw pos (keywordEach ks c.env)).all (·.1.isSome) = true := by rfl) : Ev c ρ σ (.Call (.Attribute (.Name x np) name apos) (e :: es) ks pos) o :=
  Ev.methT F.O (Ev.bt F G hl) hm he hks hi ho hq hn hp hall

theorem Ex1.set {x : PySem.Str} {px pos : Pos} {e : PySem.Expr} {v : V} (F : Fn c nm d k tn) (h : Ev c ρ σ e (.val v σ₁)) (hl : nm.lookup x = some .local := by rfl) (hs : swapsWith e (some (.Name x px)) pos.line c.env = pure false := by rfl) : Ex1 c ρ σ (.Assign [.Name x px] e pos) (.next (setL x v ρ) σ₁) :=
  Ex1.assign h F.O (by rw [F.hs]; exact hl) hs
/-- ... and what lay behind is let go -/
theorem Ex1.setD {x : PySem.Str} {px pos : Pos} {e : PySem.Expr} {v : V} {tl : List Cell} (F : Fn c nm d k tn) (h : Ev c ρ σ e (.val v (σ₁ ++ tl))) (hle : σ.length ≤ σ₁.length) (hρ : (setL x v ρ).all (fun p => p.2.low σ₁.length) = true) (hσ : σ₁.all (Cell.low σ₁.length) = true)
    (hl : nm.lookup x = some .local := by rfl) (hs : swapsWith e (some (.Name x px)) pos.line c.env = pure false := by rfl) : Ex1 c ρ σ (.Assign [.Name x px] e pos) (.next (setL x v ρ) σ₁) :=
  Ex1.drop (Ex1.set F h hl hs) hle hρ hσ
theorem Ex1.augL {x : PySem.Str} {px pos : Pos} {op : Operator} {e : PySem.Expr} {v u y : V} (F : Fn c nm d k tn) (h : Ev c ρ σ e (.val u σ₁)) (ho : Op2 c σ₁ v u (inplaceOp op) (.val y σ₂)) (hv : ρ.lookup x = some v := by rfl) (hl : nm.lookup x = some .local := by rfl) :
    Ex1 c ρ σ (.AugAssign (.Name x px) op e pos) (.next (setL x y ρ) σ₂) := Ex1.aug hv h ho F.O (by rw [F.hs]; exact hl)
theorem Ev.eq {e : PySem.Expr} {v v' : V} (h : Ev c ρ σ e (.val v σ₁)) (hv : v = v') : Ev c ρ σ e (.val v' σ₁) := by subst hv; exact h
end
end Mine

/-! P1 -/
namespace Mine

def mixN (b : List UInt8) : Nat :=
  (valB (1 :: b) * valB (1 :: b) + 11400714819323198485 * valB (1 :: b) + 7640891576956012808) % 115792089237316195423570985008687907853269984665640564039457584007913129639747
def mixB (b : List UInt8) : List UInt8 := beB 32 (mixN b)

theorem mulOk {a b n m : Nat} (ha : a < 2 ^ n) (hb : b < 2 ^ m) (h : n + m ≤ 200000) : IntMulOk (a : Int) (b : Int) := by
  have h1 : Builtin.Int.intBits (a : Int) ≤ n := intBits_le_iff.mpr (by rw [Int.natAbs_natCast]; exact ha)
  have h2 : Builtin.Int.intBits (b : Int) ≤ m := intBits_le_iff.mpr (by rw [Int.natAbs_natCast]; exact hb)
  unfold IntMulOk
  have : Builtin.Int.intTooBig (Builtin.Int.intBits (a : Int) + Builtin.Int.intBits (b : Int)) = false := by
    unfold Builtin.Int.intTooBig
    have hb : bitsLine = 134217728 := by first | rfl | decide
    rw [hb]
    simp
    omega
  rw [this]
  simp
theorem valB_bits (b : List UInt8) : valB b < 2 ^ (8 * b.length) := by
  have e : (256 : Nat) = 2 ^ 8 := by decide
  rw [Nat.pow_mul, ← e]
  exact valB_lt b
theorem fmod_nat (x m : Nat) : Int.fmod (x : Int) (m : Int) = ((x % m : Nat) : Int) := by
  rw [Int.fmod_eq_emod_of_nonneg _ (by omega)]
  rfl
theorem fdiv_nat (x m : Nat) : Int.fdiv (x : Int) (m : Int) = ((x / m : Nat) : Int) := by
  rw [Int.fdiv_eq_ediv_of_nonneg _ (by omega)]
  rfl
theorem mix_int (v a b m : Nat) : Int.fmod ((v : Int) * (v : Int) + (a : Int) * (v : Int) + (b : Int)) (m : Int) = (((v * v + a * v + b) % m : Nat) : Int) := by
  rw [← fmod_nat]
  push_cast
  rfl
theorem mix_eq (b : List UInt8) : Int.fmod ((valB (1 :: b) : Int) * (valB (1 :: b) : Int) + 11400714819323198485 * (valB (1 :: b) : Int) + 7640891576956012808) 115792089237316195423570985008687907853269984665640564039457584007913129639747 = (mixN b : Int) :=
  mix_int (valB (1 :: b)) 11400714819323198485 7640891576956012808 115792089237316195423570985008687907853269984665640564039457584007913129639747
theorem f_mixed (b : List UInt8) (hz : b.length ≤ 10000) : FunOk 80 0 false [.bytes b] [] [] [] (.ok (.bytes (mixB b))) := by
  refine FunOk.of (ρ₀ := [("octets", .bytes b)]) (out := .ret (.bytes (mixB b)) []) (fun P => by k_is) (fun P => by k_is) (fun P s as₀ xs ys X r1 r2 => ?_) rfl (by simp only [List.map]; decide) rfl rfl rfl (by decide) rfl (fun c O hs hd htn hk => ?_)
  · cases r1 with
    | cons ra r1 =>
    cases r1; cases r2
    exact ⟨_, BindsTo.of_eq rfl, .cons ra .nil⟩
  have F : Fn c _ _ _ _ := ⟨O, by rw [hs], hd, hk, htn⟩
  refine Ex.next (Ex1.setD (σ₁ := []) (tl := [_]) F (Ev.tc F bt_int (MethT.from_bytes F.O) (Evs.cons (Ev.bin Ev.cbytes (Ev.loc F) (Op2.addB (by simp; omega))) Evs.nil) (Kws.cons Ev.cstr (Kws.cons Ev.cbool Kws.nil)) rfl (ClB.from_bytesK (by simp; omega))) (by decide) rfl rfl) ?_
  have hv := valB_bits ([1] ++ b)
  refine Ex.next (Ex1.set (v := .int (mixN b)) F (Ev.eq (Ev.bin (Ev.bin (Ev.bin (Ev.bin (Ev.loc F) (Ev.loc F) (Op2.mul (mulOk hv hv (by simp; omega)))) (Ev.bin Ev.cint (Ev.loc F) (Op2.mul (IntMulOk.of_left (by decide)))) Op2.add) Ev.cint Op2.add) (Ev.con F gc_mixed_by) (Op2.fmod (by decide))) ?_)) ?_
  · exact congrArg V.int (mix_eq b)
  refine Ex.ret (Ex1.ret (Ev.meth F.O (Ev.loc F) Meth.to_bytes (Evs.cons (Ev.eq Ev.cint (show V.int 32 = V.int ((32 : Nat) : Int) from rfl)) Evs.nil) (Kws.cons Ev.cstr (Kws.cons Ev.cbool Kws.nil)) (Cl.to_bytesK (by decide) ?_)))
  exact Nat.lt_of_lt_of_le (Nat.mod_lt _ (by decide)) (by decide)
end Mine

/-! P2 -/
namespace Mine
section
variable {c : Cx} {ρ ρ' : Loc} {σ σ₁ σ₂ σ₃ σ₄ : List Cell} {o : Res} {nm : Names} {d k : Nat} {tn : Bool}
theorem setL_setL (x : PySem.Str) (u v : V) : ∀ ρ : Loc, setL x v (setL x u ρ) = setL x v ρ
  | [] => by simp [setL]
  | (y, w) :: r => by
    by_cases h : y = x
    · simp [setL, h]
    · simp [setL, h, setL_setL x u v r]
theorem Op1.not {v : V} {b : Bool} (h : Tru c σ v b) : Op1 c σ v (unaryOp .Not) (.val (.bool (!b)) σ) := fun ρ g as s x I r Q E K => by
  show wpAny _ _ (holding [x] (do return .bool (!(← truthy x)))) Q E s
  exact wpAny_holding <| wpAny_bind (h ρ g as s x _ E I r fun s' I' => wpAny_pure (K g as s' _ .refl .refl I' (.bool _)))

/-- a for over a tuple of which the body keeps all names but its own -/
theorem Ex1.forT {y : PySem.Str} {px pos : Pos} {iter : PySem.Expr} {body : List Stmt} {i : Nat} {vs : List V} (F : Fn c nm d k tn) (he : Ev c ρ σ iter (.val (.ref i) σ)) (hi : σ[i]? = some (.tuple vs)) (hk : k ≤ σ.length)
    (hb : ∀ p v, vs[p]? = some v → Ex c (setL y v ρ) (σ ++ [.itT i (p + 1)]) body (.next (setL y v ρ) (σ ++ [.itT i (p + 1)])))
    (hρ : ∀ v, v ∈ vs → (setL y v ρ).all (fun p => p.2.low σ.length) = true) (hρ0 : ρ.all (fun p => p.2.low σ.length) = true) (hσ : σ.all (Cell.low σ.length) = true) (hl : nm.lookup y = some .local := by rfl)
    (hs : ∀ x, foldedSetIterable iter c.env x = pure x := by intro _; rfl) :
    Ex1 c ρ σ (.For (.Name y px) iter body [] pos) (.next (match vs.getLast? with | none => ρ | some v => setL y v ρ) σ) := by
  have hil : i < σ.length := by
    rcases Nat.lt_or_ge i σ.length with h | h
    · exact h
    · rw [List.getElem?_eq_none h] at hi; cases hi
  let R : Nat → Loc := fun p => match p with | 0 => ρ | p + 1 => setL y (vs.getD p .none) ρ
  have hR : R vs.length = (match vs.getLast? with | none => ρ | some v => setL y v ρ) := by
    cases h : vs.length with
    | zero =>
      have : vs = [] := List.length_eq_zero_iff.mp h
      subst this; rfl
    | succ n =>
      have hne : vs ≠ [] := by intro e; subst e; simp at h
      rw [List.getLast?_eq_some_getLast hne]
      show setL y (vs.getD n .none) ρ = _
      congr 1
      rw [List.getLast_eq_getElem]
      simp [h]
  rw [← hR]
  refine Ex1.for_ (v := .ref i) vs.length R (fun _ => σ) (fun p => .itT i p) (fun p => vs.getD p .none) F.O (by rw [F.hs]; exact hl) rfl he (Itr.tuple hi) (fun _ _ => rfl) (Nat.le_refl _) (fun p hp => ⟨?_, ?_⟩) (NxEnd.tuple F.O hi (by rw [F.hk]; exact hk) (Nat.le_refl _)) ?_ hσ hs
  · have hv : vs[p]? = some (vs.getD p .none) := by simp [hp]
    have := Nx.tuple (c := c) (σ := σ ++ [.itT i p]) (j := σ.length) (i := i) (p := p) (vs := vs) (v := vs.getD p .none) (by simp) (by rw [List.getElem?_append_left hil]; exact hi) (by rw [F.hk]; exact hk) hv
    simpa using this
  · have hv : vs[p]? = some (vs.getD p .none) := by simp [hp]
    have := hb p _ hv
    have e : setL y (vs.getD p .none) (R p) = setL y (vs.getD p .none) ρ := by
      cases p with
      | zero => rfl
      | succ p => exact setL_setL _ _ _ _
    rw [e]
    exact this
  · cases h : vs.length with
    | zero => exact hρ0
    | succ n => exact hρ _ (by rw [List.getD_eq_getElem?_getD, List.getElem?_eq_getElem (by omega)]; exact List.getElem_mem _)
end

theorem one_arg {v : V} {names : List PySem.Str} {fd : FuncData} {x : PySem.Str} {s : Shared} {as₀ : List Nat} {xs ys : List Value} (r1 : RepAll as₀ [v] xs) (r2 : RepAll [] [] ys) (hb : ∀ y : Value, BindsTo s fd ⟨[y], []⟩ [(x, y)]) : ∃ binds, BindsTo s fd ⟨xs, (List.nil : List PySem.Str).zip ys⟩ binds ∧ RepBinds as₀ [(x, v)] binds := by
  cases r1 with
  | cons ra r1 =>
  cases r1; cases r2
  exact ⟨_, hb _, .cons ra .nil⟩

theorem f_is_integer (v : V) (Tx : String) (b1 b2 : Bool) (hv : v.low 0 = true) (h1 : ∀ c σ, Ans c σ v Tx "int" b1) (h2 : ∀ c σ, Ans c σ v Tx "bool" b2) : FunOk 73 0 false [v] [] [] [] (.ok (.bool (b1 && !b2))) := by
  refine FunOk.of (ρ₀ := [("value", v)]) (out := .ret (.bool (b1 && !b2)) []) (fun P => by k_is) (fun P => by k_is) (fun P s as₀ xs ys X r1 r2 => ?_) rfl (by simp only [List.map]; decide) rfl rfl rfl (by decide) rfl (fun c O hs hd htn hk => ?_)
  · cases r1 with
    | cons ra r1 =>
    cases r1; cases r2
    exact ⟨_, BindsTo.of_eq rfl, .cons ra .nil⟩
  have F : Fn c _ _ _ _ := ⟨O, by rw [hs], hd, hk, htn⟩
  refine Ex.ret (Ex1.ret ?_)
  cases b1 with
  | false => exact Ev.andF (Ev.bc F bt_isinstance (Evs.cons (Ev.loc F) (Evs.cons (Ev.bt F bt_int) Evs.nil)) Kws.nil (Cl.isi (h1 _ _))) Tru.bool
  | true => exact Ev.andT (Ev.bc F bt_isinstance (Evs.cons (Ev.loc F) (Evs.cons (Ev.bt F bt_int) Evs.nil)) Kws.nil (Cl.isi (h1 _ _))) Tru.bool (Ev.un (Ev.bc F bt_isinstance (Evs.cons (Ev.loc F) (Evs.cons (Ev.bt F bt_bool) Evs.nil)) Kws.nil (Cl.isi (h2 _ _))) (Op1.not Tru.bool))
end Mine

/-! P3 -/
namespace Mine
theorem noTn {P : Prop} : false = true → P := fun h => by cases h
theorem f_message_int (n : Nat) (hn : n < 1001) : FunOk 66 0 false [.int n] [] [] [] (.ok (.txt 4)) := by
  refine FunOk.of (ρ₀ := [("value", .int n)]) (out := .ret (.txt 4) []) (fun P => by k_is) (fun P => by k_is) (fun P s as₀ xs ys X r1 r2 => ?_) rfl (by simp only [List.map]; decide) rfl rfl rfl (by decide) rfl (fun c O hs hd htn hk => ?_)
  · cases r1 with
    | cons ra r1 =>
    cases r1; cases r2
    exact ⟨_, BindsTo.of_eq rfl, .cons ra .nil⟩
  have H : Fn c _ _ _ _ := ⟨O, by rw [hs], hd, hk, htn⟩
  exact Ex.ret (Ex1.ret (Ev.bc H bt_str (Evs.cons (Ev.loc H) Evs.nil) Kws.nil (Cl.strI hn)))
theorem f_message_list (n : Nat) (hn : n < 400) : FunOk 66 0 false [.ref 0] [] [] [.list [.int ((n + 2 : Nat) : Int), .int ((n + 1 : Nat) : Int)]] (.ok (.txt 20)) := by
  refine FunOk.of (ρ₀ := [("value", .ref 0)]) (out := .ret (.txt 20) [.list [.int ((n + 2 : Nat) : Int), .int ((n + 1 : Nat) : Int)]]) (fun P => by k_is) (fun P => by k_is) (fun P s as₀ xs ys X r1 r2 => ?_) rfl (by simp only [List.map]; decide) rfl rfl rfl (by decide) rfl (fun c O hs hd htn hk => ?_)
  · cases r1 with
    | cons ra r1 =>
    cases r1; cases r2
    exact ⟨_, BindsTo.of_eq rfl, .cons ra .nil⟩
  have H : Fn c _ _ _ _ := ⟨O, by rw [hs], hd, hk, htn⟩
  exact Ex.ret (Ex1.ret (Ev.bc H bt_str (Evs.cons (Ev.loc H) Evs.nil) Kws.nil (Cl.strL rfl hn H.O)))

abbrev tyTup : Cell := .tuple [.ty "bytes", .ty "bytearray", .ty "memoryview"]
section
variable {c : Cx} {ρ ρ' : Loc} {σ σ₁ σ₂ σ₃ σ₄ : List Cell} {o : Res} {nm : Names} {d k : Nat} {tn : Bool}
theorem Ev.btys {p1 p2 p3 pos : Pos} {kk : Nat} (F : Fn c nm d k tn) (h1 : nm.lookup ("bytes" : PySem.Str) = some .globalImplicit := by rfl) (h2 : nm.lookup ("bytearray" : PySem.Str) = some .globalImplicit := by rfl) (h3 : nm.lookup ("memoryview" : PySem.Str) = some .globalImplicit := by rfl) :
    Ev c ρ σ (.Tuple [.Name "bytes" p1, .Name "bytearray" p2, .Name "memoryview" p3] kk pos) (.val (.ref σ.length) (σ ++ [tyTup])) :=
  Ev.tuple (Evs.cons (Ev.bt F bt_bytes h1) (Evs.cons (Ev.bt F bt_bytearray h2) (Evs.cons (Ev.bt F bt_memoryview h3) Evs.nil))) (by decide)
theorem typeIs_bytesV {b : List UInt8} : ∀ ρ g as s x, Inv c g as ρ σ s → Rep as (.bytes b) x → s.TypeIs x "bytes" := fun ρ g as s x I r => by cases r; rfl
theorem sub_bb : isSubtype (.type "bytes") (.type "bytearray") = pure false := by rw [isSubtype_type]; kernel_rfl
theorem sub_bm : isSubtype (.type "bytes") (.type "memoryview") = pure false := by rw [isSubtype_type]; kernel_rfl
theorem sub_bs : isSubtype (.type "bytes") (.type "str") = pure false := by rw [isSubtype_type]; kernel_rfl
theorem bytes_tup {b : List UInt8} : AnsAll c σ (.bytes b) "bytes" ["bytes", "bytearray", "memoryview"] [true, false, false] :=
  ⟨Ans.bytesT, Ans.bytesF (by decide +kernel) F.isi_meta_bytearray sub_bb, Ans.bytesF (by decide +kernel) meta_mv sub_bm, trivial⟩
end

section
variable {c : Cx} {ρ ρ' : Loc} {σ σ₁ σ₂ σ₃ σ₄ : List Cell} {o : Res} {nm : Names} {d k : Nat} {tn : Bool}
theorem Ex1.raiseV {np cpos pos : Pos} {e : PySem.Expr} {v : V} (H : Fn c nm d k tn) (he : Ev c ρ σ e (.val v σ₁)) (hl : nm.lookup ("BTClibValueError" : PySem.Str) = some .globalImplicit := by rfl) (hs : starEach [e] c.env = [(false, eval e c.env)] := by rfl) :
    Ex1 c ρ σ (.Raise (some (.Call (.Name "BTClibValueError" np) [e] [] cpos)) none pos) (.exc true 37 σ₁) :=
  Ex1.raise H.O PySem.F.excBase_Exception (by decide) PySem.F.excBase_ValueError (by k_is) (by k_exc) (by rw [H.hs]; exact hl) he (by decide) hs
theorem Ex1.raiseT {np cpos pos : Pos} {e : PySem.Expr} {v : V} (H : Fn c nm d k tn) (he : Ev c ρ σ e (.val v σ₁)) (hl : nm.lookup ("BTClibTypeError" : PySem.Str) = some .globalImplicit := by rfl) (hs : starEach [e] c.env = [(false, eval e c.env)] := by rfl) :
    Ex1 c ρ σ (.Raise (some (.Call (.Name "BTClibTypeError" np) [e] [] cpos)) none pos) (.exc true 49 σ₁) :=
  Ex1.raise H.O PySem.F.excBase_Exception (by decide) PySem.F.excBase_TypeError (by k_is) (by k_exc) (by rw [H.hs]; exact hl) he (by decide) hs
theorem Op2.inT' {i : Nat} {ns : List Int} {x : Int} {r : Bool} (h : σ[i]? = some (.tuple (ns.map V.int))) (hr : ns.any (· == x) = r) : Op2 c σ (.int x) (.ref i) (compareOp .In) (.val (.bool r) σ) := by
  subst hr; exact Op2.inT h
end
theorem is_int (i : Int) : FunOk 73 0 false [.int i] [] [] [] (.ok (.bool true)) := f_is_integer (.int i) "int" true false rfl (fun c σ => Ans.intT) (fun c σ => Ans.intF (by decide +kernel) F.isi_meta_bool F.sub_int_bool)
theorem f_octets (b : List UInt8) (hz : b.length ≤ 1000000) : FunOk 59 1 false [.bytes b] [] [] [] (.ok (.bytes b)) := by
  refine FunOk.of (ρ₀ := [("octets", .bytes b), ("out_size", .none)]) (out := .ret (.bytes b) []) (fun P => by k_is) (fun P => by k_is) (fun P s as₀ xs ys X r1 r2 => ?_) rfl (by simp only [List.map]; decide) rfl rfl rfl (by decide) rfl (fun c O hs hdd htn hk => ?_)
  · cases r1 with
    | cons ra r1 =>
    cases r1; cases r2
    exact ⟨_, binds_K (K := hd.heap_39 P) X rfl (by k_is) rfl rfl rfl, .cons ra (.cons .none .nil)⟩
  have H : Fn c _ _ _ _ := ⟨O, by rw [hs], hdd, hk, htn⟩
  refine Ex.next (Ex1.drop (σ₁ := []) (tl := [tyTup]) (Ex1.ifF (Tst.of (Ev.bc H bt_isinstance (Evs.cons (Ev.loc H) (Evs.cons (Ev.bt H bt_str) Evs.nil)) Kws.nil (Cl.isi (Ans.bytesF (by decide +kernel) F.isi_meta_str sub_bs))) Tru.bool)
    (Ex.next (Ex1.ifT (Tst.of (Ev.bc H bt_isinstance (Evs.cons (Ev.loc H) (Evs.cons (Ev.btys H) Evs.nil)) Kws.nil (Cl.isiT rfl typeIs_bytesV bytes_tup rfl)) Tru.bool)
      (Ex.next Ex1.pass (Ex.next (Ex1.set H (Ev.bc H bt_bytes (Evs.cons (Ev.loc H) Evs.nil) Kws.nil Cl.bytesB)) Ex.nil))) Ex.nil)) (Nat.le_of_ble_eq_true rfl) rfl rfl) ?_
  exact Ex.ret (Ex1.ifT (Tst.cmp (Ev.loc H) Ev.cnone (Op2.isNone rfl)) (Ex.ret (Ex1.ret (Ev.loc H))))
theorem f_octets_none (b : List UInt8) (hz : b.length ≤ 1000000) : FunOk 59 1 false [.bytes b, .none] [] [] [] (.ok (.bytes b)) := by
  refine FunOk.of (ρ₀ := [("octets", .bytes b), ("out_size", .none)]) (out := .ret (.bytes b) []) (fun P => by k_is) (fun P => by k_is) (fun P s as₀ xs ys X r1 r2 => ?_) rfl (by simp only [List.map]; decide) rfl rfl rfl (by decide) rfl (fun c O hs hdd htn hk => ?_)
  · cases r1 with
    | cons ra r1 =>
    cases r1 with
    | cons rb r1 =>
    cases r1; cases r2
    exact ⟨_, binds_K (K := hd.heap_39 P) X rfl (by k_is) rfl rfl rfl, .cons ra (.cons rb .nil)⟩
  have H : Fn c _ _ _ _ := ⟨O, by rw [hs], hdd, hk, htn⟩
  refine Ex.next (Ex1.drop (σ₁ := []) (tl := [tyTup]) (Ex1.ifF (Tst.of (Ev.bc H bt_isinstance (Evs.cons (Ev.loc H) (Evs.cons (Ev.bt H bt_str) Evs.nil)) Kws.nil (Cl.isi (Ans.bytesF (by decide +kernel) F.isi_meta_str sub_bs))) Tru.bool)
    (Ex.next (Ex1.ifT (Tst.of (Ev.bc H bt_isinstance (Evs.cons (Ev.loc H) (Evs.cons (Ev.btys H) Evs.nil)) Kws.nil (Cl.isiT rfl typeIs_bytesV bytes_tup rfl)) Tru.bool)
      (Ex.next Ex1.pass (Ex.next (Ex1.set H (Ev.bc H bt_bytes (Evs.cons (Ev.loc H) Evs.nil) Kws.nil Cl.bytesB)) Ex.nil))) Ex.nil)) (Nat.le_of_ble_eq_true rfl) rfl rfl) ?_
  exact Ex.ret (Ex1.ifT (Tst.cmp (Ev.loc H) Ev.cnone (Op2.isNone rfl)) (Ex.ret (Ex1.ret (Ev.loc H))))
theorem f_octets_int (b : List UInt8) (n : Int) (hz : b.length ≤ 1000000) (hn : n = b.length) : FunOk 59 1 false [.bytes b, .int n] [] [] [] (.ok (.bytes b)) := by
  refine FunOk.of (ρ₀ := [("octets", .bytes b), ("out_size", .int n)]) (out := .ret (.bytes b) [.tuple [.int n]]) (fun P => by k_is) (fun P => by k_is) (fun P s as₀ xs ys X r1 r2 => ?_) rfl (by simp only [List.map]; decide) rfl rfl rfl (by decide) rfl (fun c O hs hdd htn hk => ?_)
  · cases r1 with
    | cons ra r1 =>
    cases r1 with
    | cons rb r1 =>
    cases r1; cases r2
    exact ⟨_, binds_K (K := hd.heap_39 P) X rfl (by k_is) rfl rfl rfl, .cons ra (.cons rb .nil)⟩
  have H : Fn c _ _ _ _ := ⟨O, by rw [hs], hdd, hk, htn⟩
  refine Ex.next (Ex1.drop (σ₁ := []) (tl := [tyTup]) (Ex1.ifF (Tst.of (Ev.bc H bt_isinstance (Evs.cons (Ev.loc H) (Evs.cons (Ev.bt H bt_str) Evs.nil)) Kws.nil (Cl.isi (Ans.bytesF (by decide +kernel) F.isi_meta_str sub_bs))) Tru.bool)
    (Ex.next (Ex1.ifT (Tst.of (Ev.bc H bt_isinstance (Evs.cons (Ev.loc H) (Evs.cons (Ev.btys H) Evs.nil)) Kws.nil (Cl.isiT rfl typeIs_bytesV bytes_tup rfl)) Tru.bool)
      (Ex.next Ex1.pass (Ex.next (Ex1.set H (Ev.bc H bt_bytes (Evs.cons (Ev.loc H) Evs.nil) Kws.nil Cl.bytesB)) Ex.nil))) Ex.nil)) (Nat.le_of_ble_eq_true rfl) rfl rfl) ?_
  refine Ex.next (Ex1.ifF (Tst.cmp (Ev.loc H) Ev.cnone (Op2.isNone rfl)) Ex.nil) ?_
  refine Ex.next (Ex1.ifT (Tst.of (Ev.bc H bt_isinstance (Evs.cons (Ev.loc H) (Evs.cons (Ev.bt H bt_int) Evs.nil)) Kws.nil (Cl.isi Ans.intT)) Tru.bool) (Ex.next (Ex1.set H (Ev.tuple (Evs.cons (Ev.loc H) Evs.nil) (Nat.le_of_ble_eq_true rfl))) Ex.nil)) ?_
  refine Ex.next (Ex1.forT (vs := [.int n]) H (Ev.loc H) rfl (Nat.le_of_ble_eq_true rfl) (fun p v hv => ?_) (fun v hv => ?_) rfl rfl) ?_
  · have : v = .int n := by
      cases p with
      | zero => simp at hv; exact hv.symm
      | succ p => simp at hv
    subst this
    exact Ex.next (Ex1.ifF (Tst.not (Tst.of (Ev.fc H gf_is_integer (Evs.cons (Ev.loc H) Evs.nil) Kws.nil (Cl.fun0 (is_int _) H.O (by rw [H.hd]; decide) noTn rfl rfl)) Tru.bool)) Ex.nil) Ex.nil
  · have : v = .int n := by simpa using hv
    subst this
    rfl
  refine Ex.next (Ex1.set H (Ev.bc H bt_len (Evs.cons (Ev.loc H) Evs.nil) Kws.nil (Cl.lenB (by omega)))) ?_
  exact Ex.ret (Ex1.ifT (Tst.cmp (Ev.loc H) (Ev.loc H) (Op2.inT' (ns := [n]) rfl (by simp [hn]))) (Ex.ret (Ex1.ret (Ev.loc H))))
theorem f_octets_intX (b : List UInt8) (n : Nat) (hb : b.length < 1001) (hn : n ≠ b.length) (hn' : n < 1001) : FunOk 59 1 false [.bytes b, .int n] [] [] [] (.error 37) := by
  refine FunOk.of (ρ₀ := [("octets", .bytes b), ("out_size", .int n)]) (out := .exc true 37 [.tuple [.int n]]) (fun P => by k_is) (fun P => by k_is) (fun P s as₀ xs ys X r1 r2 => ?_) rfl (by simp only [List.map]; decide) rfl rfl rfl (by decide) rfl (fun c O hs hdd htn hk => ?_)
  · cases r1 with
    | cons ra r1 =>
    cases r1 with
    | cons rb r1 =>
    cases r1; cases r2
    exact ⟨_, binds_K (K := hd.heap_39 P) X rfl (by k_is) rfl rfl rfl, .cons ra (.cons rb .nil)⟩
  have H : Fn c _ _ _ _ := ⟨O, by rw [hs], hdd, hk, htn⟩
  refine Ex.next (Ex1.drop (σ₁ := []) (tl := [tyTup]) (Ex1.ifF (Tst.of (Ev.bc H bt_isinstance (Evs.cons (Ev.loc H) (Evs.cons (Ev.bt H bt_str) Evs.nil)) Kws.nil (Cl.isi (Ans.bytesF (by decide +kernel) F.isi_meta_str sub_bs))) Tru.bool)
    (Ex.next (Ex1.ifT (Tst.of (Ev.bc H bt_isinstance (Evs.cons (Ev.loc H) (Evs.cons (Ev.btys H) Evs.nil)) Kws.nil (Cl.isiT rfl typeIs_bytesV bytes_tup rfl)) Tru.bool)
      (Ex.next Ex1.pass (Ex.next (Ex1.set H (Ev.bc H bt_bytes (Evs.cons (Ev.loc H) Evs.nil) Kws.nil Cl.bytesB)) Ex.nil))) Ex.nil)) (Nat.le_of_ble_eq_true rfl) rfl rfl) ?_
  refine Ex.next (Ex1.ifF (Tst.cmp (Ev.loc H) Ev.cnone (Op2.isNone rfl)) Ex.nil) ?_
  refine Ex.next (Ex1.ifT (Tst.of (Ev.bc H bt_isinstance (Evs.cons (Ev.loc H) (Evs.cons (Ev.bt H bt_int) Evs.nil)) Kws.nil (Cl.isi Ans.intT)) Tru.bool) (Ex.next (Ex1.set H (Ev.tuple (Evs.cons (Ev.loc H) Evs.nil) (Nat.le_of_ble_eq_true rfl))) Ex.nil)) ?_
  refine Ex.next (Ex1.forT (vs := [.int n]) H (Ev.loc H) rfl (Nat.le_of_ble_eq_true rfl) (fun p v hv => ?_) (fun v hv => ?_) rfl rfl) ?_
  · have : v = .int n := by
      cases p with
      | zero => simp at hv; exact hv.symm
      | succ p => simp at hv
    subst this
    exact Ex.next (Ex1.ifF (Tst.not (Tst.of (Ev.fc H gf_is_integer (Evs.cons (Ev.loc H) Evs.nil) Kws.nil (Cl.fun0 (is_int _) H.O (by rw [H.hd]; decide) noTn rfl rfl)) Tru.bool)) Ex.nil) Ex.nil
  · have : v = .int n := by simpa using hv
    subst this
    rfl
  refine Ex.next (Ex1.set H (Ev.bc H bt_len (Evs.cons (Ev.loc H) Evs.nil) Kws.nil (Cl.lenB (by omega)))) ?_
  refine Ex.next (Ex1.ifF (Tst.cmp (Ev.loc H) (Ev.loc H) (Op2.inT' (ns := [(n : Int)]) rfl (by simp; omega))) Ex.nil) ?_
  refine Ex.next (Ex1.set H (Ev.joined (Jn.cons (Ev.txt (n := 40) Ev.cstr (by decide)) (Jn.cons (Ev.fmtI (Ev.loc H) hb) (Jn.cons (Ev.txt (n := 40) Ev.cstr (by decide)) (Jn.cons (Ev.fmtT (Ev.fc H gf_message_text (Evs.cons (Ev.loc H) Evs.nil) Kws.nil (Cl.fun0 (f_message_int n hn') H.O (by rw [H.hd]; decide) noTn rfl rfl)) (by decide)) Jn.nil)))) (by decide))) ?_
  exact Ex.exc (Ex1.raiseV H (Ev.loc H))
theorem f_octets_tup (b : List UInt8) (n m : Int) (hz : b.length ≤ 1000000) (hn : m = b.length) : FunOk 59 1 false [.bytes b, .ref 0] [] [] [.tuple [.int n, .int m]] (.ok (.bytes b)) := by
  refine FunOk.of (ρ₀ := [("octets", .bytes b), ("out_size", .ref 0)]) (out := .ret (.bytes b) [.tuple [.int n, .int m]]) (fun P => by k_is) (fun P => by k_is) (fun P s as₀ xs ys X r1 r2 => ?_) rfl (by simp only [List.map]; decide) rfl rfl rfl (by decide) rfl (fun c O hs hdd htn hk => ?_)
  · cases r1 with
    | cons ra r1 =>
    cases r1 with
    | cons rb r1 =>
    cases r1; cases r2
    exact ⟨_, binds_K (K := hd.heap_39 P) X rfl (by k_is) rfl rfl rfl, .cons ra (.cons rb .nil)⟩
  have H : Fn c _ _ _ _ := ⟨O, by rw [hs], hdd, hk, htn⟩
  refine Ex.next (Ex1.drop (σ₁ := [.tuple [.int n, .int m]]) (tl := [tyTup]) (Ex1.ifF (Tst.of (Ev.bc H bt_isinstance (Evs.cons (Ev.loc H) (Evs.cons (Ev.bt H bt_str) Evs.nil)) Kws.nil (Cl.isi (Ans.bytesF (by decide +kernel) F.isi_meta_str sub_bs))) Tru.bool)
    (Ex.next (Ex1.ifT (Tst.of (Ev.bc H bt_isinstance (Evs.cons (Ev.loc H) (Evs.cons (Ev.btys H) Evs.nil)) Kws.nil (Cl.isiT rfl typeIs_bytesV bytes_tup rfl)) Tru.bool)
      (Ex.next Ex1.pass (Ex.next (Ex1.set H (Ev.bc H bt_bytes (Evs.cons (Ev.loc H) Evs.nil) Kws.nil Cl.bytesB)) Ex.nil))) Ex.nil)) (Nat.le_of_ble_eq_true rfl) rfl rfl) ?_
  refine Ex.next (Ex1.ifF (Tst.cmp (Ev.loc H) Ev.cnone (Op2.isNone rfl)) Ex.nil) ?_
  refine Ex.next (Ex1.drop (σ₁ := [.tuple [.int n, .int m]]) (tl := [.tuple [.ty "tuple", .ty "list"]]) (Ex1.ifF (Tst.of (Ev.bc H bt_isinstance (Evs.cons (Ev.loc H) (Evs.cons (Ev.bt H bt_int) Evs.nil)) Kws.nil (Cl.isi (Ans.tupF rfl (by decide +kernel) F.isi_meta_int (by rw [isSubtype_type]; kernel_rfl)))) Tru.bool)
    (Ex.next (Ex1.ifT (Tst.of (Ev.bc H bt_isinstance (Evs.cons (Ev.loc H) (Evs.cons (Ev.tuple (Evs.cons (Ev.bt H bt_tuple) (Evs.cons (Ev.bt H bt_list) Evs.nil)) (Nat.le_of_ble_eq_true rfl)) Evs.nil)) Kws.nil
        (Cl.isiT (Ts := ["tuple", "list"]) (bs := [true, false]) rfl (fun ρ g as s x I r => (Ans.tupT rfl ρ g as s x I r).1) ⟨Ans.tupT rfl, Ans.tupF rfl (by decide +kernel) F.isi_meta_list (by rw [isSubtype_type]; kernel_rfl), trivial⟩ rfl)) Tru.bool)
      (Ex.next (Ex1.set H (Ev.bc H bt_tuple (Evs.cons (Ev.loc H) Evs.nil) Kws.nil (Cl.tupleT rfl))) Ex.nil)) Ex.nil)) (Nat.le_of_ble_eq_true rfl) rfl rfl) ?_
  refine Ex.next (Ex1.forT (vs := [.int n, .int m]) H (Ev.loc H) rfl (Nat.le_of_ble_eq_true rfl) (fun p v hv => ?_) (fun v hv => ?_) rfl rfl) ?_
  · have : ∃ z, v = .int z := by
      match p, hv with
      | 0, hv => exact ⟨n, by simp at hv; exact hv.symm⟩
      | 1, hv => exact ⟨m, by simp at hv; exact hv.symm⟩
      | p + 2, hv => simp at hv
    obtain ⟨z, rfl⟩ := this
    exact Ex.next (Ex1.ifF (Tst.not (Tst.of (Ev.fc H gf_is_integer (Evs.cons (Ev.loc H) Evs.nil) Kws.nil (Cl.fun0 (is_int _) H.O (by rw [H.hd]; decide) noTn rfl rfl)) Tru.bool)) Ex.nil) Ex.nil
  · have : ∃ z, v = .int z := by
      rcases List.mem_cons.mp hv with rfl | hv
      · exact ⟨_, rfl⟩
      · exact ⟨m, by simpa using hv⟩
    obtain ⟨z, rfl⟩ := this
    rfl
  refine Ex.next (Ex1.set H (Ev.bc H bt_len (Evs.cons (Ev.loc H) Evs.nil) Kws.nil (Cl.lenB (by omega)))) ?_
  exact Ex.ret (Ex1.ifT (Tst.cmp (Ev.loc H) (Ev.loc H) (Op2.inT' (ns := [n, m]) rfl (by simp [hn]))) (Ex.ret (Ex1.ret (Ev.loc H))))
end Mine

/-! P4 -/
namespace Mine
theorem f_octets_listX (b : List UInt8) (n : Nat) (hb : b.length < 1001) (hn : n < 400) (h1 : n + 1 ≠ b.length) (h2 : n + 2 ≠ b.length) : FunOk 59 1 false [.bytes b, .ref 0] [] [] [.list [.int ((n + 2 : Nat) : Int), .int ((n + 1 : Nat) : Int)]] (.error 37) := by
  refine FunOk.of (ρ₀ := [("octets", .bytes b), ("out_size", .ref 0)]) (out := .exc true 37 [.list [.int ((n + 2 : Nat) : Int), .int ((n + 1 : Nat) : Int)], .tuple [.ty "tuple", .ty "list"], .tuple [.int ((n + 2 : Nat) : Int), .int ((n + 1 : Nat) : Int)]]) (fun P => by k_is) (fun P => by k_is) (fun P s as₀ xs ys X r1 r2 => ?_) rfl (by simp only [List.map]; decide) rfl rfl rfl (by decide) rfl (fun c O hs hdd htn hk => ?_)
  · cases r1 with
    | cons ra r1 =>
    cases r1 with
    | cons rb r1 =>
    cases r1; cases r2
    exact ⟨_, binds_K (K := hd.heap_39 P) X rfl (by k_is) rfl rfl rfl, .cons ra (.cons rb .nil)⟩
  have H : Fn c _ _ _ _ := ⟨O, by rw [hs], hdd, hk, htn⟩
  refine Ex.next (Ex1.drop (σ₁ := [.list [.int ((n + 2 : Nat) : Int), .int ((n + 1 : Nat) : Int)]]) (tl := [tyTup]) (Ex1.ifF (Tst.of (Ev.bc H bt_isinstance (Evs.cons (Ev.loc H) (Evs.cons (Ev.bt H bt_str) Evs.nil)) Kws.nil (Cl.isi (Ans.bytesF (by decide +kernel) F.isi_meta_str sub_bs))) Tru.bool)
    (Ex.next (Ex1.ifT (Tst.of (Ev.bc H bt_isinstance (Evs.cons (Ev.loc H) (Evs.cons (Ev.btys H) Evs.nil)) Kws.nil (Cl.isiT rfl typeIs_bytesV bytes_tup rfl)) Tru.bool)
      (Ex.next Ex1.pass (Ex.next (Ex1.set H (Ev.bc H bt_bytes (Evs.cons (Ev.loc H) Evs.nil) Kws.nil Cl.bytesB)) Ex.nil))) Ex.nil)) (Nat.le_of_ble_eq_true rfl) rfl rfl) ?_
  refine Ex.next (Ex1.ifF (Tst.cmp (Ev.loc H) Ev.cnone (Op2.isNone rfl)) Ex.nil) ?_
  refine Ex.next (Ex1.ifF (Tst.of (Ev.bc H bt_isinstance (Evs.cons (Ev.loc H) (Evs.cons (Ev.bt H bt_int) Evs.nil)) Kws.nil (Cl.isi (Ans.listF rfl (by decide +kernel) F.isi_meta_int (by rw [isSubtype_type]; kernel_rfl)))) Tru.bool)
    (Ex.next (Ex1.ifT (Tst.of (Ev.bc H bt_isinstance (Evs.cons (Ev.loc H) (Evs.cons (Ev.tuple (Evs.cons (Ev.bt H bt_tuple) (Evs.cons (Ev.bt H bt_list) Evs.nil)) (Nat.le_of_ble_eq_true rfl)) Evs.nil)) Kws.nil
        (Cl.isiT (Ts := ["tuple", "list"]) (bs := [false, true]) rfl (fun ρ g as s x I r => (Ans.listT rfl ρ g as s x I r).1) ⟨Ans.listF rfl (by decide +kernel) F.isi_meta_tuple (by rw [isSubtype_type]; kernel_rfl), Ans.listT rfl, trivial⟩ rfl)) Tru.bool)
      (Ex.next (Ex1.set H (Ev.bc H bt_tuple (Evs.cons (Ev.loc H) Evs.nil) Kws.nil (Cl.tupleL rfl (Nat.le_of_ble_eq_true rfl)))) Ex.nil)) Ex.nil)) ?_
  refine Ex.next (Ex1.forT (vs := [.int ((n + 2 : Nat) : Int), .int ((n + 1 : Nat) : Int)]) H (Ev.loc H) rfl (Nat.le_of_ble_eq_true rfl) (fun p v hv => ?_) (fun v hv => ?_) rfl rfl) ?_
  · have : ∃ z, v = .int z := by
      match p, hv with
      | 0, hv => exact ⟨((n + 2 : Nat) : Int), (Option.some.inj hv).symm⟩
      | 1, hv => exact ⟨((n + 1 : Nat) : Int), (Option.some.inj hv).symm⟩
      | p + 2, hv => simp at hv
    obtain ⟨z, rfl⟩ := this
    exact Ex.next (Ex1.ifF (Tst.not (Tst.of (Ev.fc H gf_is_integer (Evs.cons (Ev.loc H) Evs.nil) Kws.nil (Cl.fun0 (is_int _) H.O (by rw [H.hd]; decide) noTn rfl rfl)) Tru.bool)) Ex.nil) Ex.nil
  · have : ∃ z, v = .int z := by
      rcases List.mem_cons.mp hv with rfl | hv
      · exact ⟨_, rfl⟩
      · exact ⟨((n + 1 : Nat) : Int), List.mem_singleton.mp hv⟩
    obtain ⟨z, rfl⟩ := this
    rfl
  refine Ex.next (Ex1.set H (Ev.bc H bt_len (Evs.cons (Ev.loc H) Evs.nil) Kws.nil (Cl.lenB (by omega)))) ?_
  refine Ex.next (Ex1.ifF (Tst.cmp (Ev.loc H) (Ev.loc H) (Op2.inT' (ns := [((n + 2 : Nat) : Int), ((n + 1 : Nat) : Int)]) rfl (by simp; omega))) Ex.nil) ?_
  refine Ex.next (Ex1.set H (Ev.joined (Jn.cons (Ev.txt (n := 40) Ev.cstr (by decide)) (Jn.cons (Ev.fmtI (Ev.loc H) hb) (Jn.cons (Ev.txt (n := 40) Ev.cstr (by decide)) (Jn.cons (Ev.fmtT (Ev.fc H gf_message_text (Evs.cons (Ev.loc H) Evs.nil) Kws.nil (Cl.fun1 (i := 0) (f_message_list n hn) H.O (by rw [H.hd]; decide) noTn rfl rfl rfl rfl rfl)) (by decide)) Jn.nil)))) (by decide))) ?_
  exact Ex.exc (Ex1.raiseV H (Ev.loc H))
theorem f_octets_hex_none (b : List UInt8) (hz : b.length ≤ 1000000) : FunOk 59 1 false [.str (hexS b), .none] [] [] [] (.ok (.bytes b)) := by
  refine FunOk.of (ρ₀ := [("octets", .str (hexS b)), ("out_size", .none)]) (out := .ret (.bytes b) []) (fun P => by k_is) (fun P => by k_is) (fun P s as₀ xs ys X r1 r2 => ?_) rfl (by simp only [List.map]; decide) rfl rfl rfl (by decide) rfl (fun c O hs hdd htn hk => ?_)
  · cases r1 with
    | cons ra r1 =>
    cases r1 with
    | cons rb r1 =>
    cases r1; cases r2
    exact ⟨_, binds_K (K := hd.heap_39 P) X rfl (by k_is) rfl rfl rfl, .cons ra (.cons rb .nil)⟩
  have H : Fn c _ _ _ _ := ⟨O, by rw [hs], hdd, hk, htn⟩
  refine Ex.next (Ex1.ifT (Tst.of (Ev.bc H bt_isinstance (Evs.cons (Ev.loc H) (Evs.cons (Ev.bt H bt_str) Evs.nil)) Kws.nil (Cl.isi Ans.strT)) Tru.bool)
    (Ex.next (Ex1.tryNext (Ex.next (Ex1.setD (σ₁ := []) (tl := [_]) H (Ev.tc H bt_bytes (MethT.fromhex H.O) (Evs.cons (Ev.loc H) Evs.nil) Kws.nil rfl (ClB.fromhex hz)) (Nat.le_of_ble_eq_true rfl) rfl rfl) Ex.nil) Ex.nil) Ex.nil)) ?_
  exact Ex.ret (Ex1.ifT (Tst.cmp (Ev.loc H) Ev.cnone (Op2.isNone rfl)) (Ex.ret (Ex1.ret (Ev.loc H))))

theorem f_sha256 (b : List UInt8) (hz : b.length ≤ 10000) : FunOk 87 2 false [.bytes b] [] [] [] (.ok (.bytes (mixB b))) := by
  refine FunOk.of (ρ₀ := [("octets", .bytes b)]) (out := .ret (.bytes (mixB b)) []) (fun P => by k_is) (fun P => by k_is) (fun P s as₀ xs ys X r1 r2 => ?_) rfl (by simp only [List.map]; decide) rfl rfl rfl (by decide) rfl (fun c O hs hdd htn hk => ?_)
  · cases r1 with
    | cons ra r1 =>
    cases r1; cases r2
    exact ⟨_, BindsTo.of_eq rfl, .cons ra .nil⟩
  have H : Fn c _ _ _ _ := ⟨O, by rw [hs], hdd, hk, htn⟩
  refine Ex.next (Ex1.set H (Ev.fc H gf_bytes_from_octets (Evs.cons (Ev.loc H) Evs.nil) Kws.nil (Cl.fun0 (f_octets b (by omega)) H.O (by rw [H.hd]; decide) noTn rfl rfl))) ?_
  exact Ex.ret (Ex1.ret (Ev.fc H gf_mixed (Evs.cons (Ev.loc H) Evs.nil) Kws.nil (Cl.fun0 (f_mixed b hz) H.O (by rw [H.hd]; decide) noTn rfl rfl)))
theorem mixB_length (b : List UInt8) : (mixB b).length = 32 := by simp [mixB, beB]
def hashB (b : List UInt8) : List UInt8 := mixB (mixB b)
theorem hashB_length (b : List UInt8) : (hashB b).length = 32 := mixB_length _
theorem f_hash256 (b : List UInt8) (hz : b.length ≤ 10000) : FunOk 94 3 false [.bytes b] [] [] [] (.ok (.bytes (hashB b))) := by
  refine FunOk.of (ρ₀ := [("octets", .bytes b)]) (out := .ret (.bytes (hashB b)) []) (fun P => by k_is) (fun P => by k_is) (fun P s as₀ xs ys X r1 r2 => ?_) rfl (by simp only [List.map]; decide) rfl rfl rfl (by decide) rfl (fun c O hs hdd htn hk => ?_)
  · cases r1 with
    | cons ra r1 =>
    cases r1; cases r2
    exact ⟨_, BindsTo.of_eq rfl, .cons ra .nil⟩
  have H : Fn c _ _ _ _ := ⟨O, by rw [hs], hdd, hk, htn⟩
  exact Ex.ret (Ex1.ret (Ev.fc H gf_sha256 (Evs.cons (Ev.fc H gf_sha256 (Evs.cons (Ev.loc H) Evs.nil) Kws.nil (Cl.fun0 (f_sha256 b hz) H.O (by rw [H.hd]; decide) noTn rfl rfl)) Evs.nil) Kws.nil (Cl.fun0 (f_sha256 (mixB b) (by rw [mixB_length]; decide)) H.O (by rw [H.hd]; decide) noTn rfl rfl)))
end Mine

/-! P5 -/
namespace Mine
namespace BA
theorem slot_len : Slot "bytearray" "__len__" "bytearray.__len__" :=
  .of (owner := "bytearray") (n := "__len__") (by rw [typeLookup_type, builtinLookup_eq_fast]; kernel_rfl) (by decide +kernel) (by decide +kernel) (by decide +kernel)
    (by first | exact .inl (by decide +kernel) | exact .inr (by decide +kernel)) (by rw [isSubtype_type]; kernel_rfl)
theorem entry_len : entryFor table "bytearray.__len__" = some Builtin.«bytearray.__len__» := entryFor_of_tree (by kernel_rfl)
theorem args_len (a : Value) : argsOk "bytearray.__len__" ⟨[a], []⟩ := by unfold argsOk; kernel_rfl
theorem noBool : typeLookup (.type "bytearray") "__bool__" = pure none := by rw [typeLookup_type, builtinLookup_eq_fast]; kernel_rfl
end BA
section
variable {c : Cx} {ρ ρ' : Loc} {σ σ₁ σ₂ σ₃ σ₄ : List Cell} {o : Res} {nm : Names} {d k : Nat} {tn : Bool}
theorem Tru.barr {i : Nat} {b : List UInt8} {r : Bool} (h : σ[i]? = some (.barr b)) (hz : b.length ≤ 1000000) (hr : (!b.isEmpty) = r) : Tru c σ (.ref i) r := fun ρ g as s x Q E I rx kk => by
  obtain ⟨a, ob, rfl, ho, hc⟩ := I.cell h rx
  cases hc
  have hT : s.TypeIs (.ref a) "bytearray" := ⟨_, ho, rfl⟩
  have body : ∀ (A : Around) (E' : Value → Shared → Prop) (Q' : Value → Shared → Prop), Q' (.int b.length (s.toks + 1)) { s with toks := s.toks + 1 + 1 } → wpAny (model PR c.w) A (Builtin.«len» ⟨[.ref a], []⟩) (fun fin s' => ∃ r, fin = .done (.ret r) ∧ Q' r s') E' s := by
    intro A E' Q' hq
    unfold Builtin.«len»
    refine wpAny_bind (m := oneArg "len" _) (wpAny_pure ?_)
    refine wpAny_bind (m := callSpecial? (.ref a) (PySem.Str.ofString "__len__")) (wpAny_callSpecial?_slot (name := PySem.Str.ofString "__len__") hT BA.slot_len (wpAny_call_entry BA.slot_len hT BA.entry_len ?_ (BA.args_len _)))
    unfold Builtin.«bytearray.__len__»
    refine wpAny_bind (wpAny_of_eq (a := (.ref a, [])) rfl ?_)
    dsimp only
    refine wpAny_bind ?_
    unfold Builtin.Bytes.payload Builtin.Bytes.payload?
    refine wpAny_bind (wpAny_bind (wpAny_load ho ?_))
    refine wpAny_pure (wpAny_pure ?_)
    refine wpAny_bind (wpAny_mkInt (wpAny_pure ⟨_, rfl, ?_⟩))
    refine wpAny_bind (wpAny_holding (wpAny_pure ?_))
    refine wpAny_bind (wpAny_letGo ?_)
    have e : ((b.toArray.size : Nat) : Int) = (b.length : Int) := by simp
    rw [e]
    show wpAny _ _ (if ((b.length : Nat) : Int) < 0 then _ else _) _ _ _
    rw [if_neg (by omega)]
    show wpAny _ _ (if ((b.length : Nat) : Int) ≥ 2 ^ 63 then _ else _) _ _ _
    rw [if_neg (by omega)]
    exact wpAny_bind (wpAny_mkInt (wpAny_pure ⟨_, rfl, hq⟩))
  have key : wpAny (model PR c.w) c.A (runValue (.builtin "len" ⟨[.ref a], []⟩)) (fun r' s' => r' = .int b.length (s.toks + 1) ∧ Q r s') E s := by
    refine wpAny_runValue (codeAny_builtin entry_len ?_)
    rw [Around.under_plainId plain_len _]
    exact wpAny_mono (body _ _ (fun r' s' => r' = .int b.length (s.toks + 1) ∧ Q r s') ⟨rfl, kk _ (I.tok _)⟩) (fun fin s' h' => by obtain ⟨r, rfl, hq⟩ := h'; exact hq) fun _ _ e => e
  have hne : ((b.length : Int) != 0) = r := by
    rw [← hr]
    cases b <;> simp <;> omega
  unfold truthy
  first
    | refine wpAny_bind (wpAny_callSpecial?_none (name := PySem.Str.ofString "__bool__") hT BA.noBool ?_)
    | refine wpAny_bind (wpAny_pure (wpAny_bind (wpAny_callSpecial?_none (name := PySem.Str.ofString "__bool__") hT BA.noBool ?_)))
  first
    | refine wpAny_bind (wpAny_specialOf (name := PySem.Str.ofString "__len__") hT BA.slot_len.lookup ?_)
    | refine wpAny_bind (wpAny_pure (wpAny_bind (wpAny_specialOf (name := PySem.Str.ofString "__len__") hT BA.slot_len.lookup ?_)))
  refine wpAny_bind (wpAny_mono key (fun r' s' h' => ?_) fun _ _ e => e)
  obtain ⟨rfl, hq⟩ := h'
  exact wpAny_pure (by rw [hne]; exact hq)
theorem Op2.ge' {a b : Int} {r : Bool} (h : decide (a ≥ b) = r) : Op2 c σ (.int a) (.int b) (compareOp .GtE) (.val (.bool r) σ) := by subst h; exact Op2.ge
theorem Op2.gt' {a b : Int} {r : Bool} (h : decide (a > b) = r) : Op2 c σ (.int a) (.int b) (compareOp .Gt) (.val (.bool r) σ) := by subst h; exact Op2.gt
theorem Op2.lt' {a b : Int} {r : Bool} (h : decide (a < b) = r) : Op2 c σ (.int a) (.int b) (compareOp .Lt) (.val (.bool r) σ) := by subst h; exact Op2.lt
theorem Op2.eqI' {a b : Int} {r : Bool} (h : (a == b) = r) : Op2 c σ (.int a) (.int b) (compareOp .Eq) (.val (.bool r) σ) := by subst h; exact Op2.eqI
theorem Op2.fmodN {a b : Nat} (hb : b ≠ 0) : Op2 c σ (.int a) (.int b) (binaryOp .Mod) (.val (.int (a % b : Nat)) σ) := by
  rw [← fmod_nat]; exact Op2.fmod (by omega)
theorem Op2.fdivN {a b : Nat} (hb : b ≠ 0) (h : b.log2 < 9000) : Op2 c σ (.int a) (.int b) (binaryOp .FloorDiv) (.val (.int (a / b : Nat)) σ) := by
  rw [← fdiv_nat]; exact Op2.fdiv (by omega) (by simpa using h)
theorem Cl.divmodN {a b : Nat} (hb : b ≠ 0) (h : b.log2 < 9000) : Cl c σ (.builtin "divmod") [.int a, .int b] [] [] (.val (.ref σ.length) (σ ++ [.tuple [.int (a / b : Nat), .int (a % b : Nat)]])) := by
  have := Cl.divmod (c := c) (σ := σ) (a := (a : Int)) (b := (b : Int)) (by omega) (by simpa using h)
  rw [fdiv_nat, fmod_nat] at this
  exact this
end

/-! ### digits -/
def LE58 (n : Nat) : List Nat := if h : n = 0 then [] else n % 58 :: LE58 (n / 58)
termination_by n
decreasing_by omega
theorem LE58_zero : LE58 0 = [] := by rw [LE58]; simp
theorem LE58_pos {n : Nat} (h : n ≠ 0) : LE58 n = n % 58 :: LE58 (n / 58) := by rw [LE58]; simp [h]
def digsN (I : Nat) (n : Nat) : List Nat := (List.range n).map fun j => I / 58 ^ j % 58
theorem LE58_digs : ∀ (n I : Nat), (∀ k, k < n → I / 58 ^ k ≠ 0) → I / 58 ^ n = 0 → LE58 I = digsN I n
  | 0, I, _, h => by
    have : I = 0 := by simpa using h
    subst this
    rw [LE58_zero]
    rfl
  | n + 1, I, h1, h2 => by
    have h0 : I ≠ 0 := by simpa using h1 0 (by omega)
    have e : ∀ k, I / 58 / 58 ^ k = I / 58 ^ (k + 1) := fun k => by rw [Nat.div_div_eq_div_mul, Nat.pow_succ, Nat.mul_comm]
    rw [LE58_pos h0, LE58_digs n (I / 58) (fun k hk => by rw [e]; exact h1 (k + 1) (by omega)) (by rw [e]; exact h2)]
    unfold digsN
    rw [List.range_succ_eq_map, List.map_cons, List.map_map]
    congr 1
    · simp
    · apply List.map_congr_left
      intro j _
      show I / 58 / 58 ^ j % 58 = I / 58 ^ (j + 1) % 58
      rw [e]
theorem exists_cnt (B : Nat) (hB : 1 < B) : ∀ I : Nat, ∃ n, (∀ k, k < n → B ≤ I / B ^ k) ∧ I / B ^ n < B := by
  intro I
  induction I using Nat.strongRecOn with
  | ind I ih =>
    by_cases h : I < B
    · exact ⟨0, fun k hk => by omega, by simpa using h⟩
    · obtain ⟨n, h1, h2⟩ := ih (I / B) (Nat.div_lt_self (by omega) hB)
      have e : ∀ k, I / B / B ^ k = I / B ^ (k + 1) := fun k => by rw [Nat.div_div_eq_div_mul, Nat.pow_succ, Nat.mul_comm]
      refine ⟨n + 1, fun k hk => ?_, by rw [← e]; exact h2⟩
      cases k with
      | zero => simp; omega
      | succ k => rw [← e]; exact h1 k (by omega)
theorem exists_digs : ∀ I : Nat, ∃ n, (∀ k, k < n → I / 58 ^ k ≠ 0) ∧ I / 58 ^ n = 0 := by
  intro I
  induction I using Nat.strongRecOn with
  | ind I ih =>
    by_cases h : I = 0
    · subst h; exact ⟨0, fun k hk => by omega, by simp⟩
    · obtain ⟨n, h1, h2⟩ := ih (I / 58) (Nat.div_lt_self (by omega) (by decide))
      have e : ∀ k, I / 58 / 58 ^ k = I / 58 ^ (k + 1) := fun k => by rw [Nat.div_div_eq_div_mul, Nat.pow_succ, Nat.mul_comm]
      refine ⟨n + 1, fun k hk => ?_, by rw [← e]; exact h2⟩
      cases k with
      | zero => simpa using h
      | succ k => rw [← e]; exact h1 k (by omega)
def digB (l : List Nat) : List UInt8 := l.map UInt8.ofNat
abbrev CB58 : Nat := 430804206899405824
theorem cb_eq : CB58 = 58 ^ 10 := by decide
/-- the digits behind k chunks -/
def chunkD (I : Nat) (k : Nat) : List Nat := digsN I (10 * k)
theorem chunk_step (I k : Nat) : chunkD I k ++ digsN (I / CB58 ^ k % CB58) 10 = chunkD I (k + 1) := by
  unfold chunkD digsN
  have : 10 * (k + 1) = 10 * k + 10 := by omega
  rw [this, List.range_add, List.map_append, List.map_map]
  congr 1
  apply List.map_congr_left
  intro j hj
  have hj' : j < 10 := List.mem_range.mp hj
  show I / CB58 ^ k % CB58 / 58 ^ j % 58 = I / 58 ^ (10 * k + j) % 58
  have e1 : CB58 ^ k = 58 ^ (10 * k) := by rw [cb_eq, ← Nat.pow_mul]
  have e2 : CB58 = 58 ^ j * 58 ^ (10 - j) := by rw [cb_eq, ← Nat.pow_add]; congr 1; omega
  have e3 : I / CB58 ^ k % CB58 = I / CB58 ^ k % (58 ^ j * 58 ^ (10 - j)) := congrArg (I / CB58 ^ k % ·) e2
  rw [e3, Nat.mod_mul_right_div_self, Nat.mod_mod_of_dvd _ (by
    have : 10 - j = (9 - j) + 1 := by omega
    rw [this, Nat.pow_succ]
    exact Nat.dvd_mul_left _ _), e1, Nat.div_div_eq_div_mul, ← Nat.pow_add]
theorem chunk_all {I n m : Nat} (hm : 0 < m) (h1 : ∀ k, k < m → I / CB58 ^ n / 58 ^ k ≠ 0) (h2 : I / CB58 ^ n / 58 ^ m = 0) : chunkD I n ++ digsN (I / CB58 ^ n) m = LE58 I := by
  have e1 : CB58 ^ n = 58 ^ (10 * n) := by rw [cb_eq, ← Nat.pow_mul]
  have pw : ∀ k, I / CB58 ^ n / 58 ^ k = I / 58 ^ (10 * n + k) := fun k => by rw [e1, Nat.div_div_eq_div_mul, ← Nat.pow_add]
  have e : chunkD I n ++ digsN (I / CB58 ^ n) m = digsN I (10 * n + m) := by
    unfold chunkD digsN
    rw [List.range_add, List.map_append, List.map_map]
    congr 1
    apply List.map_congr_left
    intro j _
    show I / CB58 ^ n / 58 ^ j % 58 = I / 58 ^ (10 * n + j) % 58
    rw [pw]
  rw [e]
  symm
  apply LE58_digs
  · intro k hk hz
    by_cases hlt : k < 10 * n
    · have h3 := h1 0 hm
      rw [pw] at h3
      apply h3
      have h4 : I / 58 ^ (10 * n + 0) ≤ I / 58 ^ k := Nat.div_le_div_left (Nat.pow_le_pow_right (by decide) (by omega)) (Nat.pow_pos (by decide))
      rw [hz] at h4
      exact Nat.le_zero.mp h4
    · have hk' : k = 10 * n + (k - 10 * n) := by omega
      rw [hk', ← pw] at hz
      exact h1 _ (by omega) hz
  · rw [← pw]; exact h2
end Mine

/-! P6 -/
namespace Mine
def b58L (I : Nat) : List UInt8 := (LE58 I).reverse.map fun d => alpha.getD d 0
theorem char_digit : ∀ d : Nat, d < 58 → charT.getD (UInt8.ofNat d).toNat (UInt8.ofNat d) = alpha.getD d 0 := by decide +kernel
theorem LE58_lt : ∀ (n : Nat) (I : Nat), I ≤ n → ∀ d ∈ LE58 I, d < 58
  | n, I, h, d, hd => by
    by_cases h0 : I = 0
    · subst h0; rw [LE58_zero] at hd; cases hd
    · rw [LE58_pos h0] at hd
      rcases List.mem_cons.mp hd with rfl | hd
      · omega
      · cases n with
        | zero => omega
        | succ n => exact LE58_lt n (I / 58) (by omega) d hd
theorem tr_digits (I : Nat) : trB charT (digB (LE58 I)).reverse = b58L I := by
  unfold trB digB b58L
  rw [← List.map_reverse, List.map_map]
  apply List.map_congr_left
  intro d hd
  exact char_digit d (LE58_lt I I (Nat.le_refl _) d (List.mem_reverse.mp hd))
theorem charT_length : charT.length = 256 := by decide +kernel

theorem digsN_succ (I n : Nat) : digsN I (n + 1) = digsN I n ++ [I / 58 ^ n % 58] := by
  unfold digsN
  rw [List.range_succ, List.map_append]
  rfl
theorem digB_snoc (l : List Nat) (d : Nat) : digB (l ++ [d]) = digB l ++ [UInt8.ofNat d] := by simp [digB]
theorem digB_app (l m : List Nat) : digB (l ++ m) = digB l ++ digB m := by simp [digB]
theorem gc_chunk_baseN : Gc "_CHUNK_BASE" (.int ((CB58 : Nat) : Int)) := gc_chunk_base
theorem gc_baseN : Gc "BASE_base58" (.int ((58 : Nat) : Int)) := gc_base
section
variable {c : Cx} {ρ ρ' : Loc} {σ σ₁ σ₂ σ₃ σ₄ : List Cell} {o : Res} {nm : Names} {d k : Nat} {tn : Bool}
theorem Ex1.set2D {x y : PySem.Str} {px py tpos pos : Pos} {kk : Nat} {e : PySem.Expr} {v u : V} (H : Fn c nm d k tn) (h : Ev c ρ σ e (.val (.ref σ.length) (σ ++ [.tuple [v, u]]))) (hρ : (setL y u (setL x v ρ)).all (fun p => p.2.low σ.length) = true) (hσ : σ.all (Cell.low σ.length) = true)
    (hx : nm.lookup x = some .local := by rfl) (hy : nm.lookup y = some .local := by rfl)
    (hs : swapsWithSole [.Tuple [.Name x px, .Name y py] kk tpos] e pos.line c.env = pure false := by rfl) (hw : swappedStores [.Tuple [.Name x px, .Name y py] kk tpos] e c.env = pure none := by rfl) :
    Ex1 c ρ σ (.Assign [.Tuple [.Name x px, .Name y py] kk tpos] e pos) (.next (setL y u (setL x v ρ)) σ) :=
  Ex1.drop (tl := [.tuple [v, u]]) (Ex1.assign2 H.O h (by simp) (by rw [H.hs]; exact hx) (by rw [H.hs]; exact hy) hs hw) (Nat.le_refl _) hρ hσ
theorem dmE {np pos : Pos} {e₁ e₂ : PySem.Expr} {a b : Nat} (H : Fn c nm d k tn) (h1 : Ev c ρ σ e₁ (.val (.int a) σ)) (h2 : Ev c ρ σ e₂ (.val (.int b) σ)) (hb : b ≠ 0) (hl : b.log2 < 9000) (hn : nm.lookup ("divmod" : PySem.Str) = some .globalImplicit := by rfl)
    (hn' : starEach [e₁, e₂] c.env = (false, eval e₁ c.env) :: starEach [e₂] c.env := by rfl) (hn2 : starEach [e₂] c.env = (false, eval e₂ c.env) :: starEach [] c.env := by rfl) :
    Ev c ρ σ (.Call (.Name "divmod" np) [e₁, e₂] [] pos) (.val (.ref σ.length) (σ ++ [.tuple [.int (a / b : Nat), .int (a % b : Nat)]])) :=
  Ev.bc H bt_divmod (Evs.cons h1 (Evs.cons h2 Evs.nil hn2) hn') Kws.nil (Cl.divmodN hb hl) hn hn' (by rw [hn', hn2]; rfl) rfl
theorem ExC1.app {px apos pos p2 p3 : Pos} {z : PySem.Str} {i : Nat} {b : List UInt8} {x : Nat} {pl : Sem Bool} (H : Fn c nm d k tn) (hi : σ[i]? = some (.barr b)) (hk : k ≤ i) (hx : x < 256) (hz : b.length < 16777216) (h1 : ρ.lookup ("digits" : PySem.Str) = some (.ref i)) (h2 : ρ.lookup z = some (.int x))
    (hl1 : nm.lookup ("digits" : PySem.Str) = some .local) (hl2 : nm.lookup z = some .local) (h3 : (z == ("__debug__" : PySem.Str)) = false)
    (hq : eval (.Call (.Attribute (.Name "digits" px) "append" apos) [.Name z p2] [] p3) c.env = (do
      let ov ← eval (.Name "digits" px) c.env
      standAt apos.atName
      let (f, first) ← holding [ov] (getMethod ov "append" pl)
      callWith p3 f first (backTo p3 (starEach [.Name z p2] c.env)) (backToKw p3 (keywordEach [] c.env)))) :
    ExC1 c ρ σ (.Expr (.Call (.Attribute (.Name "digits" px) "append" apos) [.Name z p2] [] p3) pos) (.next ρ (σ.set i (.barr (b ++ [UInt8.ofNat x])))) := by
  have e : ((x : Int).toNat).toUInt8 = UInt8.ofNat x := by simp
  rw [← e]
  exact ExC1.expr (EvC.meth H.O (Ev.loc H h1 hl1) (Meth.barr hi BA.slot_append BA.type_append) (Evs.cons (Ev.loc H h2 hl2 h3) Evs.nil) Kws.nil (ClC.append H.O hi (by rw [H.hk]; exact hk) (by omega) (by omega) hz) hq) rfl H.O
abbrev lo5 (i ch us dg : V) : Loc := [("i", i), ("digits", .ref 0), ("chunk", ch), ("_", us), ("digit", dg)]
/-- ten digits of a chunk -/
theorem tenC {px rp np p1 p2 p3 p4 p5 p6 p7 p8 p9 q1 q2 q3 q4 q5 pos : Pos} {kk : Nat} {vi : V} {cc : Nat} {D : List UInt8} {ρ₀ : Loc} (H : Fn c nm d 0 tn) (hD : D.length < 16000000) (hi : vi.low 0 = true)
    (hT : ρ₀ = ([("i", vi), ("digits", V.ref 0), ("chunk", V.int cc)] : Loc) ∨ ∃ y z : Int, ρ₀ = lo5 vi (V.int cc) (V.int y) (V.int z))
    (l1 : nm.lookup ("_" : PySem.Str) = some .local) (l2 : nm.lookup ("chunk" : PySem.Str) = some .local) (l3 : nm.lookup ("digit" : PySem.Str) = some .local) (l4 : nm.lookup ("digits" : PySem.Str) = some .local)
    {pl : Sem Bool} (hq : eval (.Call (.Attribute (.Name "digits" q1) "append" q2) [.Name "digit" q3] [] q4) c.env = (do
      let ov ← eval (.Name "digits" q1) c.env
      standAt q2.atName
      let (f, first) ← holding [ov] (getMethod ov "append" pl)
      callWith q4 f first (backTo q4 (starEach [.Name "digit" q3] c.env)) (backToKw q4 (keywordEach [] c.env))))
    (g1 : nm.lookup ("range" : PySem.Str) = some .globalImplicit) (g2 : nm.lookup ("_CHUNK" : PySem.Str) = some .globalImplicit) (g3 : nm.lookup ("divmod" : PySem.Str) = some .globalImplicit) (g4 : nm.lookup ("BASE_base58" : PySem.Str) = some .globalImplicit) :
    ExC1 c ρ₀ [.barr D]
      (.For (.Name "_" px) (.Call (.Name "range" np) [.Name "_CHUNK" p1] [] rp)
        [.Assign [.Tuple [.Name "chunk" p2, .Name "digit" p3] kk p4] (.Call (.Name "divmod" p5) [.Name "chunk" p6, .Name "BASE_base58" p7] [] p8) p9,
         .Expr (.Call (.Attribute (.Name "digits" q1) "append" q2) [.Name "digit" q3] [] q4) q5] [] pos)
      (.next (lo5 vi (.int (cc / 58 ^ 10 : Nat)) (.int 9) (.int (cc / 58 ^ 9 % 58 : Nat))) [.barr (D ++ digB (digsN cc 10))]) := by
  let R : Nat → Loc := fun j => match j with
    | 0 => ρ₀
    | j + 1 => lo5 vi (.int (cc / 58 ^ (j + 1) : Nat)) (.int (j : Nat)) (.int (cc / 58 ^ j % 58 : Nat))
  let B : Nat → List Cell := fun j => [.barr (D ++ digB (digsN cc j)), .rng 0 10 1]
  let it : Nat → Cell := fun j => .itR (j : Nat) (10 - (j : Nat)) 1
  have hdl : ∀ j, (digB (digsN cc j)).length = j := fun j => by simp [digB, digsN]
  have main : ExC1 c ρ₀ [.barr D] (.For (.Name "_" px) (.Call (.Name "range" np) [.Name "_CHUNK" p1] [] rp)
        [.Assign [.Tuple [.Name "chunk" p2, .Name "digit" p3] kk p4] (.Call (.Name "divmod" p5) [.Name "chunk" p6, .Name "BASE_base58" p7] [] p8) p9,
         .Expr (.Call (.Attribute (.Name "digits" q1) "append" q2) [.Name "digit" q3] [] q4) q5] [] pos) (.next (R 10) (B 10)) := by
    refine ExC1.for_ (v := .ref 1) 10 R B it (fun j => .int (j : Nat)) H.O (by rw [H.hs]; exact l1) rfl ?_ ?_ (fun i hi => rfl) (by show 1 ≤ 2; decide) (fun j hj => ⟨?_, ?_⟩) (NxEnd.range H.O (by rw [H.hk]; exact Nat.zero_le _) (by decide)) ?_ rfl
    · have e0 : B 0 = [.barr D] ++ [.rng 0 10 1] := by show [Cell.barr (D ++ []), _] = _; rw [List.append_nil]; rfl
      rw [e0]
      exact Ev.bc H bt_range (Evs.cons (Ev.con H gc_chunk g2) Evs.nil) Kws.nil Cl.range1 g1
    · exact Itr.range (c := c) (σ := B 0) (i := 1) (x := 0) (y := 10) (z := 1) rfl (by decide +kernel)
    · have := Nx.range (c := c) (σ := B j ++ [it j]) (j := (B 0).length) (x := (j : Nat)) (l := 10 - (j : Nat)) (st := 1) rfl (by rw [H.hk]; exact Nat.zero_le _) (by omega)
      have e : (B j ++ [it j]).set (B 0).length (.itR ((j : Nat) + 1) (10 - (j : Nat) - 1) 1) = B j ++ [it (j + 1)] := by
        show [_, _, Cell.itR ((j : Nat) + 1) (10 - (j : Nat) - 1) 1] = [_, _, Cell.itR ((j + 1 : Nat) : Int) (10 - ((j + 1 : Nat) : Int)) 1]
        have : (10 - (j : Int) - 1) = 10 - ((j + 1 : Nat) : Int) := by omega
        rw [this]
        rfl
      rw [e] at this
      exact this
    · have hR : ∃ z : V, z.low 0 = true ∧ (setL "_" (.int (j : Nat)) (R j) = ([("i", vi), ("digits", V.ref 0), ("chunk", V.int (cc / 58 ^ j : Nat)), ("_", V.int (j : Nat))] : Loc) ∨ setL "_" (.int (j : Nat)) (R j) = lo5 vi (V.int (cc / 58 ^ j : Nat)) (V.int (j : Nat)) z) := by
        cases j with
        | zero =>
          rcases hT with rfl | ⟨y, z, rfl⟩
          · exact ⟨.none, rfl, .inl (by rw [Nat.pow_zero, Nat.div_one]; rfl)⟩
          · exact ⟨.int z, rfl, .inr (by rw [Nat.pow_zero, Nat.div_one]; rfl)⟩
        | succ j => exact ⟨.int (cc / 58 ^ j % 58 : Nat), rfl, .inr rfl⟩
      have e1 : cc / 58 ^ j / 58 = cc / 58 ^ (j + 1) := by rw [Nat.div_div_eq_div_mul, ← Nat.pow_succ]
      have eB : (B j ++ [it (j + 1)]).set 0 (.barr (D ++ digB (digsN cc j) ++ [UInt8.ofNat (cc / 58 ^ j % 58)])) = B (j + 1) ++ [it (j + 1)] := by
        show [Cell.barr (D ++ digB (digsN cc j) ++ [UInt8.ofNat (cc / 58 ^ j % 58)]), _, _] = [Cell.barr (D ++ digB (digsN cc (j + 1))), _, _]
        rw [digsN_succ, digB_snoc, List.append_assoc]
      have hlow : vi.low (B j ++ [it (j + 1)]).length = true := by cases vi <;> first | rfl | (simp [V.low] at hi)
      have hlows : ∀ a b e : Int, (lo5 vi (.int a) (.int b) (.int e)).all (fun p => p.2.low (B j ++ [it (j + 1)]).length) = true := fun a b e => by
        show (vi.low _ && true) = true
        rw [hlow]
        rfl
      obtain ⟨z, hz, h | h⟩ := hR
      · rw [h]
        refine ExC.next (Ex1.set2D H (dmE (a := cc / 58 ^ j) (b := 58) H (Ev.loc H rfl l2) (Ev.con H gc_baseN g4) (by decide) (by decide) g3) (by exact hlows _ _ _) rfl l2 l3).C ?_
        refine ExC.next (ρ' := R (j + 1)) (σ₁ := B (j + 1) ++ [it (j + 1)]) ?_ (Ex.C Ex.nil)
        rw [← eB]
        have e2 : setL "digit" (.int (cc / 58 ^ j % 58 : Nat)) (setL "chunk" (.int (cc / 58 ^ j / 58 : Nat)) ([("i", vi), ("digits", V.ref 0), ("chunk", V.int (cc / 58 ^ j : Nat)), ("_", V.int (j : Nat))] : Loc)) = R (j + 1) := by rw [e1]; rfl
        rw [e2]
        exact ExC1.app H rfl (Nat.zero_le _) (by omega) (by simp [hdl]; omega) rfl rfl l4 l3 (by decide) hq
      · rw [h]
        refine ExC.next (Ex1.set2D H (dmE (a := cc / 58 ^ j) (b := 58) H (Ev.loc H rfl l2) (Ev.con H gc_baseN g4) (by decide) (by decide) g3) (by exact hlows _ _ _) rfl l2 l3).C ?_
        refine ExC.next (ρ' := R (j + 1)) (σ₁ := B (j + 1) ++ [it (j + 1)]) ?_ (Ex.C Ex.nil)
        rw [← eB]
        have e2 : setL "digit" (.int (cc / 58 ^ j % 58 : Nat)) (setL "chunk" (.int (cc / 58 ^ j / 58 : Nat)) (lo5 vi (V.int (cc / 58 ^ j : Nat)) (V.int (j : Nat)) z)) = R (j + 1) := by rw [e1]; rfl
        rw [e2]
        exact ExC1.app H rfl (Nat.zero_le _) (by omega) (by simp [hdl]; omega) rfl rfl l4 l3 (by decide) hq
    · have : vi.low 2 = true := by cases vi <;> first | rfl | (simp [V.low] at hi)
      show (vi.low 2 && true) = true
      rw [this]
      rfl
  exact ExC1.drop (tl := [.rng 0 10 1]) main (Nat.le_refl _) (by
    have : vi.low 1 = true := by cases vi <;> first | rfl | (simp [V.low] at hi)
    show (vi.low 1 && true) = true
    rw [this]
    rfl) rfl
end
end Mine

/-! P7 -/
namespace Mine
theorem LE58_len : ∀ (N I : Nat), I < 58 ^ N → (LE58 I).length ≤ N
  | 0, I, h => by
    have : I = 0 := by simp at h; exact h
    subst this
    rw [LE58_zero]
    exact Nat.le_refl _
  | N + 1, I, h => by
    by_cases h0 : I = 0
    · subst h0; rw [LE58_zero]; exact Nat.zero_le _
    · rw [LE58_pos h0, List.length_cons]
      have : I / 58 < 58 ^ N := by
        rw [Nat.div_lt_iff_lt_mul (by decide)]
        rw [Nat.pow_succ] at h
        exact h
      exact Nat.succ_le_succ (LE58_len N (I / 58) this)
theorem digB_len (l : List Nat) : (digB l).length = l.length := by simp [digB]
theorem digsN_len (I n : Nat) : (digsN I n).length = n := by simp [digsN]
theorem geT {a b : Nat} (h : b ≤ a) : decide ((a : Int) ≥ (b : Int)) = true := decide_eq_true (Int.ofNat_le.mpr h)
theorem geF {a b : Nat} (h : a < b) : decide ((a : Int) ≥ (b : Int)) = false := decide_eq_false (by omega)
theorem neT {a : Nat} (h : a ≠ 0) : ((a : Int) != 0) = true := by simp [h]
theorem neF {a : Nat} (h : a = 0) : ((a : Int) != 0) = false := by simp [h]
theorem div_step (B I k : Nat) : I / B ^ k / B = I / B ^ (k + 1) := by rw [Nat.div_div_eq_div_mul, ← Nat.pow_succ]

theorem f_enc_int (I N : Nat) (h0 : 0 < I) (hI : I < 58 ^ N) (hN : N ≤ 1000) : FunOkC 101 0 false [.int I] [] [] [] (.bytes (b58L I)) := by
  obtain ⟨n, hn1, hn2⟩ := exists_cnt CB58 (by decide) I
  obtain ⟨i2, hi2⟩ : ∃ i2, i2 = I / CB58 ^ n := ⟨_, rfl⟩
  obtain ⟨m, hm1, hm2⟩ := exists_digs i2
  have hpos : 0 < i2 := by
    rw [hi2]
    cases n with
    | zero => simpa using h0
    | succ n =>
      have := hn1 n (by omega)
      rw [← div_step]
      exact Nat.div_pos this (by decide)
  have hm : 0 < m := by
    rcases Nat.eq_zero_or_pos m with h | h
    · subst h; simp at hm2; omega
    · exact h
  have hall : chunkD I n ++ digsN i2 m = LE58 I := by
    subst hi2
    exact chunk_all hm hm1 hm2
  have hlen : 10 * n + m ≤ 1000 := by
    have h1 := LE58_len N I hI
    have h2 : (chunkD I n ++ digsN i2 m).length = 10 * n + m := by rw [List.length_append]; unfold chunkD; rw [digsN_len, digsN_len]
    rw [hall] at h2
    omega
  let cc : Nat → Nat := fun k => I / CB58 ^ k % CB58
  let R : Nat → Loc := fun k => match k with
    | 0 => [("i", .int (I : Nat)), ("digits", .ref 0)]
    | k + 1 => lo5 (.int (I / CB58 ^ (k + 1) : Nat)) (.int (cc k / 58 ^ 10 : Nat)) (.int 9) (.int (cc k / 58 ^ 9 % 58 : Nat))
  have hR : ∀ k, R k = ([("i", .int (I / CB58 ^ k : Nat)), ("digits", .ref 0)] : Loc) ∨ ∃ x z : Int, R k = lo5 (.int (I / CB58 ^ k : Nat)) (.int x) (.int 9) (.int z) := fun k => by
    cases k with
    | zero => left; rw [Nat.pow_zero, Nat.div_one]
    | succ k => exact .inr ⟨_, _, rfl⟩
  let S : Nat → List Cell := fun k => [.barr (digB (chunkD I k))]
  let R2 : Nat → Loc := fun j => match j with
    | 0 => R n
    | j + 1 => setL "digit" (.int (i2 / 58 ^ j % 58 : Nat)) (setL "i" (.int (i2 / 58 ^ (j + 1) : Nat)) (R n))
  have hlow : ∀ k, (R2 k).all (fun p => p.2.low 1) = true := fun k => by
    cases k with
    | zero =>
      show (R n).all _ = true
      rcases hR n with h | ⟨x, z, h⟩ <;> rw [h] <;> rfl
    | succ k =>
      show (setL "digit" _ (setL "i" _ (R n))).all _ = true
      rcases hR n with h | ⟨x, z, h⟩ <;> rw [h] <;> rfl
  have hi : ∀ k, (R2 k).lookup ("i" : PySem.Str) = some (V.int (i2 / 58 ^ k : Nat)) := fun k => by
    cases k with
    | zero =>
      show (R n).lookup ("i" : PySem.Str) = _
      rw [Nat.pow_zero, Nat.div_one, hi2]
      rcases hR n with h | ⟨x, z, h⟩ <;> rw [h] <;> rfl
    | succ k =>
      show (setL "digit" _ (setL "i" _ (R n))).lookup ("i" : PySem.Str) = _
      rcases hR n with h | ⟨x, z, h⟩ <;> rw [h] <;> rfl
  have hdg : ∀ k, (R2 k).lookup ("digits" : PySem.Str) = some (V.ref 0) := fun k => by
    cases k with
    | zero =>
      show (R n).lookup ("digits" : PySem.Str) = _
      rcases hR n with h | ⟨x, z, h⟩ <;> rw [h] <;> rfl
    | succ k =>
      show (setL "digit" _ (setL "i" _ (R n))).lookup ("digits" : PySem.Str) = _
      rcases hR n with h | ⟨x, z, h⟩ <;> rw [h] <;> rfl
  have hstep : ∀ k, setL "digit" (.int (i2 / 58 ^ k % 58 : Nat)) (setL "i" (.int (i2 / 58 ^ k / 58 : Nat)) (R2 k)) = R2 (k + 1) := fun k => by
    rw [div_step]
    cases k with
    | zero => rfl
    | succ k =>
      show setL "digit" _ (setL "i" _ (setL "digit" _ (setL "i" _ (R n)))) = setL "digit" _ (setL "i" _ (R n))
      rcases hR n with h | ⟨x, z, h⟩ <;> rw [h] <;> rfl
  have hdig : ∀ k, (R2 (k + 1)).lookup ("digit" : PySem.Str) = some (V.int (i2 / 58 ^ k % 58 : Nat)) := fun k => by
    show (setL "digit" _ (setL "i" _ (R n))).lookup ("digit" : PySem.Str) = _
    rcases hR n with h | ⟨x, z, h⟩ <;> rw [h] <;> rfl
  have hlen2 : (LE58 I).length ≤ 1000000 := Nat.le_trans (LE58_len N I hI) (by omega)
  have hne : LE58 I ≠ [] := by rw [LE58_pos (by omega)]; simp
  let S2 : Nat → List Cell := fun j => [.barr (digB (chunkD I n ++ digsN i2 j))]
  refine FunOkC.of (ρ₀ := [("i", .int I)]) (σ' := [.barr (digB (LE58 I)).reverse]) (fun P => by k_is) (fun P => by k_is) (fun P s as₀ xs ys X r1 r2 => ?_) rfl (by simp only [List.map]; decide) rfl rfl rfl (by decide) rfl (fun c O hs hdd htn hk => ?_)
  · cases r1 with
    | cons ra r1 =>
    cases r1; cases r2
    exact ⟨_, BindsTo.of_eq rfl, .cons ra .nil⟩
  have H : Fn c _ _ _ _ := ⟨O, by rw [hs], hdd, hk, htn⟩
  refine ExC.next (ExC1.assign (EvC.call0 H.O (Ev.bt H bt_bytearray) rep_ty Keep.ty (ClC.bytearray H.O)) H.O (by rw [H.hs]; rfl)) ?_
  refine ExC.next (ρ' := R n) (σ₁ := S n) (ExC1.while_ n R S rfl rfl (fun k hk => ⟨S k, ?_, ?_⟩) ?_) ?_
  · rcases hR k with h | ⟨x, z, h⟩ <;> rw [h]
    · exact (Tst.cmp (Ev.loc H) (Ev.con H gc_chunk_baseN) (Op2.ge' (geT (hn1 k hk)))).C
    · exact (Tst.cmp (Ev.loc H) (Ev.con H gc_chunk_baseN) (Op2.ge' (geT (hn1 k hk)))).C
  · have hS : digB (chunkD I k) ++ digB (digsN (cc k) 10) = digB (chunkD I (k + 1)) := by rw [← digB_app, chunk_step]
    have eS : S (k + 1) = [.barr (digB (chunkD I k) ++ digB (digsN (cc k) 10))] := by rw [hS]
    have hkn : k < n := hk
    have hz : (digB (chunkD I k)).length < 16000000 := by rw [digB_len]; unfold chunkD; rw [digsN_len]; omega
    show ExC c (R k) (S k) _ (.next (lo5 (.int (I / CB58 ^ (k + 1) : Nat)) (.int (cc k / 58 ^ 10 : Nat)) (.int 9) (.int (cc k / 58 ^ 9 % 58 : Nat))) (S (k + 1)))
    rw [eS, ← div_step]
    rcases hR k with h | ⟨x, z, h⟩ <;> rw [h]
    · exact ExC.next (Ex1.set2D H (dmE (a := I / CB58 ^ k) (b := CB58) H (Ev.loc H) (Ev.con H gc_chunk_baseN) (by decide) (by decide)) rfl rfl).C
        (ExC.next (tenC H hz rfl (.inl rfl) rfl rfl rfl rfl rfl rfl rfl rfl rfl) (Ex.C Ex.nil))
    · exact ExC.next (Ex1.set2D H (dmE (a := I / CB58 ^ k) (b := CB58) H (Ev.loc H) (Ev.con H gc_chunk_baseN) (by decide) (by decide)) rfl rfl).C
        (ExC.next (tenC H hz rfl (.inr ⟨_, _, rfl⟩) rfl rfl rfl rfl rfl rfl rfl rfl rfl) (Ex.C Ex.nil))
  · rcases hR n with h | ⟨x, z, h⟩ <;> rw [h]
    · exact (Tst.cmp (Ev.loc H) (Ev.con H gc_chunk_baseN) (Op2.ge' (geF hn2))).C
    · exact (Tst.cmp (Ev.loc H) (Ev.con H gc_chunk_baseN) (Op2.ge' (geF hn2))).C
  refine ExC.next (ρ' := R2 m) (σ₁ := S2 m) (ExC1.while_ m R2 S2 rfl (by show [_] = [_]; simp [digsN]) (fun k hk => ⟨S2 k, ?_, ?_⟩) ?_) ?_
  · exact (Tst.bool (Tsts.orT (Tst.of (Ev.loc H (hi k)) (Tru.int (neT (hm1 k hk)))))).C
  · have eS : S2 (k + 1) = (S2 k).set 0 (.barr (digB (chunkD I n ++ digsN i2 k) ++ [UInt8.ofNat (i2 / 58 ^ k % 58)])) := by
      show [_] = [_]
      rw [digsN_succ, ← List.append_assoc, digB_snoc]
    have hz : (digB (chunkD I n ++ digsN i2 k)).length < 16777216 := by rw [digB_len, List.length_append]; unfold chunkD; rw [digsN_len, digsN_len]; omega
    rw [eS]
    refine ExC.next (Ex1.set2D H (dmE (a := i2 / 58 ^ k) (b := 58) H (Ev.loc H (hi k)) (Ev.con H gc_baseN) (by decide) (by decide)) (by rw [hstep]; exact hlow (k + 1)) rfl).C ?_
    rw [hstep]
    exact ExC.next (ExC1.app H rfl (Nat.zero_le _) (by omega) hz (hdg (k + 1)) (hdig k) rfl rfl (by decide) rfl) (Ex.C Ex.nil)
  · refine (Tst.bool (Tsts.orF (Tst.of (Ev.loc H (hi m)) (Tru.int (neF hm2))) (Tsts.orF (Tst.not (b := true) (Tst.of (Ev.loc H (hdg m)) (Tru.barr rfl (by rw [hall, digB_len]; exact hlen2) (by rw [hall]; simp [digB]; exact hne)))) Tsts.orNil))).C
  have eS : S2 m = [.barr (digB (LE58 I))] := by show [_] = [_]; rw [hall]
  rw [eS]
  have hz : (digB (LE58 I)).length ≤ 1000000 := by rw [digB_len]; exact hlen2
  refine ExC.next (Ex1.expr (Ev.meth0 H.O (Ev.loc H (hdg m)) (Meth.barr rfl BA.slot_reverse BA.type_reverse) (Cl.reverse rfl (by rw [H.hk]; exact Nat.le_refl _) (by omega))) rfl H.O).C ?_
  refine Ex.C (Ex.ret (Ex1.ret (Ev.eq (Ev.meth H.O (Ev.bc H bt_bytes (Evs.cons (Ev.loc H (hdg m)) Evs.nil) Kws.nil (Cl.bytesA rfl (by rw [List.length_reverse]; exact hz))) Meth.translate (Evs.cons (Ev.con H gc_char) Evs.nil) Kws.nil (Cl.translate charT_length (by rw [List.length_reverse]; omega))) (congrArg V.bytes (tr_digits I)))))
end Mine

/-! P8 -/
namespace Mine
theorem noI_bytes_add : typeLookup (.type "bytes") (dunderI "add") = pure none := by rw [typeLookup_type, builtinLookup_eq_fast]; kernel_rfl
theorem Op2.iaddB {c : Cx} {σ : List Cell} {a b : List UInt8} (h : a.length + b.length ≤ 16777216) : Op2 c σ (.bytes a) (.bytes b) (inplaceOp .Add) (.val (.bytes (a ++ b)) σ) := fun ρ g as s x y I r1 r2 Q E K => by
  cases r1 with
  | bytes _ t =>
  cases r2 with
  | bytes _ u =>
  refine iconcat_gives (typeIs_bytes s _ t) (typeIs_bytes s _ u) noI_bytes_add KBy.noFill_bytes_add KBy.seq_bytes_add FB.slot_bytes_add FB.entry_bytes_add (FB.args_bytes_add_2 _ _) (KBy.gives_bytes_add (KBy.tooLong_not (by simpa using h))) ?_
  by_cases ha : a.toArray.isEmpty = true
  · rw [if_pos ha]
    have e : a = [] := by simpa using ha
    subst e
    exact K g as _ _ .refl .refl I (.bytes b u)
  · rw [if_neg ha]
    by_cases hb : b.toArray.isEmpty = true
    · rw [if_pos hb]
      have e : b = [] := by simpa using hb
      subst e
      rw [List.append_nil] at K
      exact K g as _ _ .refl .refl I (.bytes a t)
    · rw [if_neg hb]
      refine ⟨by rw [Array.size_append, sizeLine_eq]; simpa using h, ?_⟩
      rw [List.append_toArray]
      exact K g as _ _ .refl .refl (I.tok _) (.bytes (a ++ b) s.toks)
def strip0 (v : List UInt8) : List UInt8 := lstripB [0] v
def encB (v : List UInt8) : List UInt8 := List.replicate (v.length - (strip0 v).length) 49 ++ b58L (valB (strip0 v))
theorem strip0_le (v : List UInt8) : (strip0 v).length ≤ v.length := dropWhile_le _ _
theorem valB_cons (x : UInt8) (r : List UInt8) : valB (x :: r) = x.toNat * 256 ^ r.length + valB r := by
  have go : ∀ (l : List UInt8) (a : Nat), l.foldl (fun acc y => acc * 256 + y.toNat) a = a * 256 ^ l.length + l.foldl (fun acc y => acc * 256 + y.toNat) 0 := by
    intro l
    induction l with
    | nil => intro a; simp
    | cons y l ih =>
      intro a
      rw [List.foldl_cons, List.foldl_cons, ih, ih (0 * 256 + y.toNat), List.length_cons, Nat.pow_succ, Nat.add_mul, Nat.zero_mul, Nat.zero_add, Nat.mul_assoc, Nat.mul_comm 256]
      omega
  unfold valB
  rw [List.foldl_cons, go]
  simp
theorem strip0_pos {v : List UInt8} (h : strip0 v ≠ []) : 0 < valB (strip0 v) := by
  unfold strip0 lstripB at h ⊢
  cases e : v.dropWhile (fun c => ([0] : List UInt8).contains c) with
  | nil => exact absurd e h
  | cons x r =>
    rw [valB_cons]
    have h1 := List.head?_dropWhile_not (fun c => ([0] : List UInt8).contains c) v
    rw [e] at h1
    have hx : x ≠ 0 := by simpa using h1
    have : 0 < x.toNat := by
      rcases Nat.eq_zero_or_pos x.toNat with q | q
      · exact absurd (UInt8.toNat_inj.mp (by rw [q]; rfl)) hx
      · exact q
    have h2 : 0 < 256 ^ r.length := Nat.pow_pos (by decide)
    have := Nat.mul_pos this h2
    omega
theorem valB_58 (b : List UInt8) : valB b < 58 ^ (2 * b.length) := by
  refine Nat.lt_of_lt_of_le (valB_lt b) ?_
  rw [Nat.pow_mul]
  exact Nat.pow_le_pow_left (by decide) _
theorem b58L_zero : b58L 0 = [] := by unfold b58L; rw [LE58_zero]; rfl
theorem b58L_len (I : Nat) : (b58L I).length = (LE58 I).length := by simp [b58L]

theorem f_b58encode (v : List UInt8) (hz : v.length ≤ 500) : FunOkC 108 1 false [.bytes v] [] [] [] (.bytes (encB v)) := by
  refine FunOkC.of (ρ₀ := [("v", .bytes v)]) (σ' := []) (fun P => by k_is) (fun P => by k_is) (fun P s as₀ xs ys X r1 r2 => ?_) rfl (by simp only [List.map]; decide) rfl rfl rfl (by decide) rfl (fun c O hs hdd htn hk => ?_)
  · cases r1 with
    | cons ra r1 =>
    cases r1; cases r2
    exact ⟨_, BindsTo.of_eq rfl, .cons ra .nil⟩
  have H : Fn c _ _ _ _ := ⟨O, by rw [hs], hdd, hk, htn⟩
  have hsl := strip0_le v
  refine ExC.next (Ex1.set H (Ev.bc H bt_len (Evs.cons (Ev.loc H) Evs.nil) Kws.nil (Cl.lenB (by omega)))).C ?_
  refine ExC.next (Ex1.set (v := .bytes (strip0 v)) H (Ev.meth H.O (Ev.loc H) Meth.lstrip (Evs.cons Ev.cbytes Evs.nil) Kws.nil (Cl.lstrip (by omega)))).C ?_
  refine ExC.next (Ex1.set H (Ev.bc H bt_len (Evs.cons (Ev.loc H) Evs.nil) Kws.nil (Cl.lenB (by omega)))).C ?_
  refine ExC.next (Ex1.augL H (Ev.loc H) Op2.isub).C ?_
  refine ExC.next (Ex1.set (v := .bytes (List.replicate (v.length - (strip0 v).length) 49)) H (Ev.eq (Ev.bin (Ev.eq (Ev.sliceB (Ev.con H gc_alpha) Part.none (Part.some Ev.cint) (by decide)) (show _ = V.bytes [49] from congrArg V.bytes (by decide))) (Ev.loc H) (Op2.mulB1 (by omega) (by omega))) ?_)).C ?_
  · congr 2
    omega
  by_cases he : strip0 v = []
  · have e0 : encB v = List.replicate (v.length - (strip0 v).length) 49 := by
      unfold encB
      rw [he]
      show _ ++ b58L 0 = _
      rw [b58L_zero, List.append_nil]
    rw [e0]
    refine ExC.next (Ex1.ifF (Tst.of (Ev.loc H) (Tru.int (neF (by rw [he]; rfl)))) Ex.nil).C ?_
    exact Ex.C (Ex.ret (Ex1.ret (Ev.loc H)))
  · have hp := strip0_pos he
    have hl : (strip0 v).length ≠ 0 := fun h => he (List.length_eq_zero_iff.mp h)
    have hb : (b58L (valB (strip0 v))).length ≤ 1000 := by
      rw [b58L_len]
      exact Nat.le_trans (LE58_len _ _ (valB_58 _)) (by omega)
    refine ExC.next (ExC1.ifT (Tst.of (Ev.loc H) (Tru.int (neT hl))).C
      (ExC.next (Ex1.setD (σ₁ := []) (tl := [_]) H (Ev.tc H bt_int (MethT.from_bytes H.O) (Evs.cons (Ev.loc H) Evs.nil) (Kws.cons Ev.cstr (Kws.cons Ev.cbool Kws.nil)) rfl (ClB.from_bytesK (by omega))) (by decide) rfl rfl).C
        (ExC.next (ExC1.aug rfl (EvC.fc H gf_b58encode_from_int (Evs.cons (Ev.loc H) Evs.nil) Kws.nil (ClC.fun0 (f_enc_int (valB (strip0 v)) (2 * (strip0 v).length) hp (valB_58 _) (by omega)) H.O (by rw [H.hd]; decide) noTn rfl rfl)) (Op2.iaddB (by simp; omega)) H.O (by rw [H.hs]; rfl)) (Ex.C Ex.nil)))) ?_
    exact Ex.C (Ex.ret (Ex1.ret (Ev.loc H)))
end Mine

/-! P9 -/
namespace Mine
def chkB (v : List UInt8) : List UInt8 := sl (hashB v) none (some 4)
theorem chkB_eq (v : List UInt8) : chkB v = (hashB v).take 4 := by
  unfold chkB sl
  rw [hashB_length]
  rfl
theorem chkB_length (v : List UInt8) : (chkB v).length = 4 := by rw [chkB_eq, List.length_take, hashB_length]; rfl
def encC (v : List UInt8) : List UInt8 := encB (v ++ chkB v)
theorem f_encode (b : List UInt8) (hz : b.length ≤ 400) : FunOkC 116 4 false [.bytes b] [] [] [] (.bytes (encC b)) := by
  refine FunOkC.of (ρ₀ := [("v", .bytes b), ("in_size", .none)]) (σ' := []) (fun P => by k_is) (fun P => by k_is) (fun P s as₀ xs ys X r1 r2 => ?_) rfl (by simp only [List.map]; decide) rfl rfl rfl (by decide) rfl (fun c O hs hdd htn hk => ?_)
  · cases r1 with
    | cons ra r1 =>
    cases r1; cases r2
    exact ⟨_, binds_K (K := hd.heap_39 P) X rfl (by k_is) rfl rfl rfl, .cons ra (.cons .none .nil)⟩
  have H : Fn c _ _ _ _ := ⟨O, by rw [hs], hdd, hk, htn⟩
  refine ExC.next (Ex1.set (v := .bytes b) H (Ev.fc H gf_bytes_from_octets (Evs.cons (Ev.loc H) (Evs.cons (Ev.loc H) Evs.nil)) Kws.nil (Cl.fun0 (f_octets_none b (by omega)) H.O (by rw [H.hd]; decide) noTn rfl rfl))).C ?_
  refine ExC.next (Ex1.set H (Ev.fc H gf_hash256 (Evs.cons (Ev.loc H) Evs.nil) Kws.nil (Cl.fun0 (f_hash256 b (by omega)) H.O (by rw [H.hd]; decide) noTn rfl rfl))).C ?_
  exact ExC.ret (ExC1.ret (EvC.fc H gf_b58encode (Evs.cons (Ev.bin (Ev.loc H) (Ev.sliceB (Ev.loc H) Part.none (Part.some Ev.cint) (by rw [hashB_length]; decide)) (Op2.addB (by have := chkB_length b; unfold chkB at this; omega))) Evs.nil) Kws.nil (ClC.fun0 (f_b58encode (b ++ chkB b) (by rw [List.length_append, chkB_length]; omega)) H.O (by rw [H.hd]; decide) noTn rfl rfl)))
theorem f_encode_hex (b : List UInt8) (hz : b.length ≤ 400) : FunOkC 116 4 false [.str (hexS b)] [] [] [] (.bytes (encC b)) := by
  refine FunOkC.of (ρ₀ := [("v", .str (hexS b)), ("in_size", .none)]) (σ' := []) (fun P => by k_is) (fun P => by k_is) (fun P s as₀ xs ys X r1 r2 => ?_) rfl (by simp only [List.map]; decide) rfl rfl rfl (by decide) rfl (fun c O hs hdd htn hk => ?_)
  · cases r1 with
    | cons ra r1 =>
    cases r1; cases r2
    exact ⟨_, binds_K (K := hd.heap_39 P) X rfl (by k_is) rfl rfl rfl, .cons ra (.cons .none .nil)⟩
  have H : Fn c _ _ _ _ := ⟨O, by rw [hs], hdd, hk, htn⟩
  refine ExC.next (Ex1.set (v := .bytes b) H (Ev.fc H gf_bytes_from_octets (Evs.cons (Ev.loc H) (Evs.cons (Ev.loc H) Evs.nil)) Kws.nil (Cl.fun0 (f_octets_hex_none b (by omega)) H.O (by rw [H.hd]; decide) noTn rfl rfl))).C ?_
  refine ExC.next (Ex1.set H (Ev.fc H gf_hash256 (Evs.cons (Ev.loc H) Evs.nil) Kws.nil (Cl.fun0 (f_hash256 b (by omega)) H.O (by rw [H.hd]; decide) noTn rfl rfl))).C ?_
  exact ExC.ret (ExC1.ret (EvC.fc H gf_b58encode (Evs.cons (Ev.bin (Ev.loc H) (Ev.sliceB (Ev.loc H) Part.none (Part.some Ev.cint) (by rw [hashB_length]; decide)) (Op2.addB (by have := chkB_length b; unfold chkB at this; omega))) Evs.nil) Kws.nil (ClC.fun0 (f_b58encode (b ++ chkB b) (by rw [List.length_append, chkB_length]; omega)) H.O (by rw [H.hd]; decide) noTn rfl rfl)))
theorem f_encode_int (b : List UInt8) (hz : b.length ≤ 400) : FunOkC 116 4 false [.bytes b, .int (b.length : Nat)] [] [] [] (.bytes (encC b)) := by
  refine FunOkC.of (ρ₀ := [("v", .bytes b), ("in_size", .int (b.length : Nat))]) (σ' := []) (fun P => by k_is) (fun P => by k_is) (fun P s as₀ xs ys X r1 r2 => ?_) rfl (by simp only [List.map]; decide) rfl rfl rfl (by decide) rfl (fun c O hs hdd htn hk => ?_)
  · cases r1 with
    | cons ra r1 =>
    cases r1 with
    | cons rb r1 =>
    cases r1; cases r2
    exact ⟨_, binds_K (K := hd.heap_39 P) X rfl (by k_is) rfl rfl rfl, .cons ra (.cons rb .nil)⟩
  have H : Fn c _ _ _ _ := ⟨O, by rw [hs], hdd, hk, htn⟩
  refine ExC.next (Ex1.set (v := .bytes b) H (Ev.fc H gf_bytes_from_octets (Evs.cons (Ev.loc H) (Evs.cons (Ev.loc H) Evs.nil)) Kws.nil (Cl.fun0 (f_octets_int b _ (by omega) rfl) H.O (by rw [H.hd]; decide) noTn rfl rfl))).C ?_
  refine ExC.next (Ex1.set H (Ev.fc H gf_hash256 (Evs.cons (Ev.loc H) Evs.nil) Kws.nil (Cl.fun0 (f_hash256 b (by omega)) H.O (by rw [H.hd]; decide) noTn rfl rfl))).C ?_
  exact ExC.ret (ExC1.ret (EvC.fc H gf_b58encode (Evs.cons (Ev.bin (Ev.loc H) (Ev.sliceB (Ev.loc H) Part.none (Part.some Ev.cint) (by rw [hashB_length]; decide)) (Op2.addB (by have := chkB_length b; unfold chkB at this; omega))) Evs.nil) Kws.nil (ClC.fun0 (f_b58encode (b ++ chkB b) (by rw [List.length_append, chkB_length]; omega)) H.O (by rw [H.hd]; decide) noTn rfl rfl)))
theorem f_encode_tup (b : List UInt8) (n : Int) (hz : b.length ≤ 400) : FunOkC 116 4 false [.bytes b, .ref 0] [] [] [.tuple [.int n, .int (b.length : Nat)]] (.bytes (encC b)) := by
  refine FunOkC.of (ρ₀ := [("v", .bytes b), ("in_size", .ref 0)]) (σ' := [.tuple [.int n, .int (b.length : Nat)]]) (fun P => by k_is) (fun P => by k_is) (fun P s as₀ xs ys X r1 r2 => ?_) rfl (by simp only [List.map]; decide) rfl rfl rfl (by decide) rfl (fun c O hs hdd htn hk => ?_)
  · cases r1 with
    | cons ra r1 =>
    cases r1 with
    | cons rb r1 =>
    cases r1; cases r2
    exact ⟨_, binds_K (K := hd.heap_39 P) X rfl (by k_is) rfl rfl rfl, .cons ra (.cons rb .nil)⟩
  have H : Fn c _ _ _ _ := ⟨O, by rw [hs], hdd, hk, htn⟩
  refine ExC.next (Ex1.set (v := .bytes b) H (Ev.fc H gf_bytes_from_octets (Evs.cons (Ev.loc H) (Evs.cons (Ev.loc H) Evs.nil)) Kws.nil (Cl.fun1 (i := 0) (f_octets_tup b n _ (by omega) rfl) H.O (by rw [H.hd]; decide) noTn rfl rfl rfl rfl rfl))).C ?_
  refine ExC.next (Ex1.set H (Ev.fc H gf_hash256 (Evs.cons (Ev.loc H) Evs.nil) Kws.nil (Cl.fun0 (f_hash256 b (by omega)) H.O (by rw [H.hd]; decide) noTn rfl rfl))).C ?_
  exact ExC.ret (ExC1.ret (EvC.fc H gf_b58encode (Evs.cons (Ev.bin (Ev.loc H) (Ev.sliceB (Ev.loc H) Part.none (Part.some Ev.cint) (by rw [hashB_length]; decide)) (Op2.addB (by have := chkB_length b; unfold chkB at this; omega))) Evs.nil) Kws.nil (ClC.fun0 (f_b58encode (b ++ chkB b) (by rw [List.length_append, chkB_length]; omega)) H.O (by rw [H.hd]; decide) noTn rfl rfl)))
theorem f_encode_intX (b : List UInt8) (n : Nat) (hb : b.length < 1001) (hn : n ≠ b.length) (hn' : n < 1001) : FunOk 116 4 false [.bytes b, .int n] [] [] [] (.error 37) := by
  refine FunOk.of (ρ₀ := [("v", .bytes b), ("in_size", .int n)]) (out := .exc false 37 []) (fun P => by k_is) (fun P => by k_is) (fun P s as₀ xs ys X r1 r2 => ?_) rfl (by simp only [List.map]; decide) rfl rfl rfl (by decide) rfl (fun c O hs hdd htn hk => ?_)
  · cases r1 with
    | cons ra r1 =>
    cases r1 with
    | cons rb r1 =>
    cases r1; cases r2
    exact ⟨_, binds_K (K := hd.heap_39 P) X rfl (by k_is) rfl rfl rfl, .cons ra (.cons rb .nil)⟩
  have H : Fn c _ _ _ _ := ⟨O, by rw [hs], hdd, hk, htn⟩
  exact Ex.exc (Ex1.assignX (Ev.fc H gf_bytes_from_octets (Evs.cons (Ev.loc H) (Evs.cons (Ev.loc H) Evs.nil)) Kws.nil (Cl.fun0 (f_octets_intX b n hb hn hn') H.O (by rw [H.hd]; decide) noTn rfl rfl)))
theorem f_encode_listX (b : List UInt8) (n : Nat) (hb : b.length < 1001) (hn : n < 400) (h1 : n + 1 ≠ b.length) (h2 : n + 2 ≠ b.length) : FunOk 116 4 false [.bytes b, .ref 0] [] [] [.list [.int ((n + 2 : Nat) : Int), .int ((n + 1 : Nat) : Int)]] (.error 37) := by
  refine FunOk.of (ρ₀ := [("v", .bytes b), ("in_size", .ref 0)]) (out := .exc false 37 [.list [.int ((n + 2 : Nat) : Int), .int ((n + 1 : Nat) : Int)]]) (fun P => by k_is) (fun P => by k_is) (fun P s as₀ xs ys X r1 r2 => ?_) rfl (by simp only [List.map]; decide) rfl rfl rfl (by decide) rfl (fun c O hs hdd htn hk => ?_)
  · cases r1 with
    | cons ra r1 =>
    cases r1 with
    | cons rb r1 =>
    cases r1; cases r2
    exact ⟨_, binds_K (K := hd.heap_39 P) X rfl (by k_is) rfl rfl rfl, .cons ra (.cons rb .nil)⟩
  have H : Fn c _ _ _ _ := ⟨O, by rw [hs], hdd, hk, htn⟩
  exact Ex.exc (Ex1.assignX (Ev.fc H gf_bytes_from_octets (Evs.cons (Ev.loc H) (Evs.cons (Ev.loc H) Evs.nil)) Kws.nil (Cl.fun1 (i := 0) (f_octets_listX b n hb hn h1 h2) H.O (by rw [H.hd]; decide) noTn rfl rfl rfl rfl rfl)))
end Mine

/-! P10 -/
namespace Mine
theorem sl_nn {α : Type} (D : List α) (a b : Nat) (h : a ≤ b) : sl D (some (a : Int)) (some (b : Int)) = (D.take b).drop a := by
  unfold sl
  simp only [Option.elim, clipAt_nat]
  rw [List.drop_take]
  rcases Nat.le_total a D.length with ha | ha
  · rw [Nat.min_eq_left ha]
    rcases Nat.le_total b D.length with hb | hb
    · rw [Nat.min_eq_left hb]
    · rw [Nat.min_eq_right hb, List.take_of_length_le (by rw [List.length_drop]; omega), List.take_of_length_le (by rw [List.length_drop]; omega)]
  · rw [Nat.min_eq_right ha, List.drop_of_length_le ha, List.drop_of_length_le (Nat.le_refl _)]
    simp
def hor (l : List UInt8) : Nat := l.foldl (fun a x => a * 58 + x.toNat) 0
theorem hor_go : ∀ (l : List UInt8) (a : Nat), l.foldl (fun a x => a * 58 + x.toNat) a = a * 58 ^ l.length + hor l
  | [], a => by simp [hor]
  | x :: r, a => by
    unfold hor
    rw [List.foldl_cons, List.foldl_cons, hor_go r, hor_go r (0 * 58 + x.toNat), List.length_cons, Nat.pow_succ, Nat.add_mul, Nat.zero_mul, Nat.zero_add, Nat.mul_assoc, Nat.mul_comm 58]
    omega
theorem hor_app (l r : List UInt8) : hor (l ++ r) = hor l * 58 ^ r.length + hor r := by
  show (l ++ r).foldl _ 0 = _
  rw [List.foldl_append, hor_go]
  rfl
theorem hor_snoc (l : List UInt8) (x : UInt8) : hor (l ++ [x]) = hor l * 58 + x.toNat := by
  rw [hor_app]
  simp [hor]
theorem hor_lt (l : List UInt8) : hor l < 2 ^ (8 * l.length) := by
  have e : (256 : Nat) = 2 ^ 8 := by decide
  rw [Nat.pow_mul, ← e]
  have go : ∀ n (l : List UInt8), l.length = n → hor l < 256 ^ n := by
    intro n
    induction n with
    | zero =>
      intro l h
      have := List.length_eq_zero_iff.mp h
      subst this
      decide
    | succ n ih =>
      intro l h
      have hne : l ≠ [] := by intro e; subst e; simp at h
      obtain ⟨r, x, rfl⟩ : ∃ r x, l = r ++ [x] := ⟨l.dropLast, l.getLast hne, (List.dropLast_concat_getLast hne).symm⟩
      have := ih r (by simpa using h)
      rw [hor_snoc, Nat.pow_succ]
      have := x.toNat_lt
      omega
  exact go _ l rfl
section
variable {c : Cx} {ρ ρ' : Loc} {σ σ₁ σ₂ σ₃ σ₄ : List Cell} {o : Res} {nm : Names} {d k : Nat} {tn : Bool}
theorem Ex1.forB {y : PySem.Str} {px pos : Pos} {iter : PySem.Expr} {body : List Stmt} {b : List UInt8} (R : Nat → Loc) (F : Fn c nm d k tn) (h0 : R 0 = ρ) (he : Ev c ρ σ iter (.val (.bytes b) σ)) (hk : k ≤ σ.length)
    (hb : ∀ p v, b[p]? = some v → Ex c (setL y (.int v.toNat) (R p)) (σ ++ [.itB b (p + 1)]) body (.next (R (p + 1)) (σ ++ [.itB b (p + 1)])))
    (hρ : (R b.length).all (fun p => p.2.low σ.length) = true) (hσ : σ.all (Cell.low σ.length) = true) (hl : nm.lookup y = some .local := by rfl)
    (hs : ∀ x, foldedSetIterable iter c.env x = pure x := by intro _; rfl) :
    Ex1 c ρ σ (.For (.Name y px) iter body [] pos) (.next (R b.length) σ) := by
  refine Ex1.for_ (v := .bytes b) b.length R (fun _ => σ) (fun p => .itB b p) (fun p => .int (b.getD p 0).toNat) F.O (by rw [F.hs]; exact hl) h0 he Itr.bytes (fun _ _ => rfl) (Nat.le_refl _) (fun p hp => ⟨?_, ?_⟩) (NxEnd.bytes F.O (by rw [F.hk]; exact hk) (Nat.le_refl _)) hρ hσ hs
  · have hv : b[p]? = some (b.getD p 0) := by simp [hp]
    have := Nx.bytes (c := c) (σ := σ ++ [.itB b p]) (j := σ.length) (i := p) (b := b) (ch := b.getD p 0) (by simp) (by rw [F.hk]; exact hk) hv
    simpa using this
  · have hv : b[p]? = some (b.getD p 0) := by simp [hp]
    exact hb p _ hv
theorem Op2.powN {a n : Nat} (h2 : n ≤ 1000000) (ha : a < 2 ^ 64) : Op2 c σ (.int a) (.int n) (binaryOp .Pow) (.val (.int (a ^ n : Nat)) σ) := by
  have := Op2.pow (c := c) (σ := σ) (a := (a : Int)) (n := (n : Int)) (by omega) (by omega) (by rw [Int.natAbs_natCast]; exact ha)
  rw [Int.toNat_natCast] at this
  have e : ((a ^ n : Nat) : Int) = (a : Int) ^ n := by push_cast; rfl
  rw [e]
  exact this
theorem Op2.addN {a b : Nat} : Op2 c σ (.int a) (.int b) (binaryOp .Add) (.val (.int (a + b : Nat)) σ) := by
  have := Op2.add (c := c) (σ := σ) (a := (a : Int)) (b := (b : Int))
  rw [Int.natCast_add]
  exact this
theorem Op2.mulN {a b n m : Nat} (ha : a < 2 ^ n) (hb : b < 2 ^ m) (h : n + m ≤ 200000) : Op2 c σ (.int a) (.int b) (binaryOp .Mult) (.val (.int (a * b : Nat)) σ) := by
  have := Op2.mul (c := c) (σ := σ) (mulOk ha hb h)
  rw [Int.natCast_mul]
  exact this
abbrev loD (v D i st ch va : V) : Loc := [("v", v), ("digits", D), ("i", i), ("start", st), ("chunk", ch), ("value", va)]
abbrev loD' (v D i st ch va dg : V) : Loc := [("v", v), ("digits", D), ("i", i), ("start", st), ("chunk", ch), ("value", va), ("digit", dg)]

theorem inB {p0 p1 p2 p3 p4 p5 q1 q2 q3 pos : Pos} {v D i st : V} {ch : List UInt8} {ρ₀ : Loc} (H : Fn c nm d k tn) (hk : k ≤ σ.length) (hch : ch.length ≤ 1000) (hne : ch ≠ []) (hv : (loD v D i st (.bytes ch) (.int 0)).all (fun p => p.2.low σ.length) = true) (hσ : σ.all (Cell.low σ.length) = true)
    (hT : ρ₀ = loD v D i st (.bytes ch) (.int 0) ∨ ∃ z : Int, ρ₀ = loD' v D i st (.bytes ch) (.int 0) (.int z))
    (l1 : nm.lookup ("digit" : PySem.Str) = some .local) (l2 : nm.lookup ("chunk" : PySem.Str) = some .local) (l3 : nm.lookup ("value" : PySem.Str) = some .local) (g1 : nm.lookup ("BASE_base58" : PySem.Str) = some .globalImplicit) :
    Ex1 c ρ₀ σ (.For (.Name "digit" p0) (.Name "chunk" p1) [.Assign [.Name "value" p2] (.BinOp (.BinOp (.Name "value" p3) .Mult (.Name "BASE_base58" p4) p5) .Add (.Name "digit" q1) q2) q3] [] pos)
      (.next (loD' v D i st (.bytes ch) (.int (hor ch)) (.int (ch.getD (ch.length - 1) 0).toNat)) σ) := by
  let R : Nat → Loc := fun j => match j with
    | 0 => ρ₀
    | j + 1 => loD' v D i st (.bytes ch) (.int (hor (ch.take (j + 1)))) (.int (ch.getD j 0).toNat)
  obtain ⟨m, hm⟩ : ∃ m, ch.length = m + 1 := ⟨ch.length - 1, by have := List.length_pos_iff.mpr hne; omega⟩
  have hlow : ∀ a e : Int, (loD' v D i st (.bytes ch) (.int a) (.int e)).all (fun p => p.2.low σ.length) = true := fun a e => by
    simp only [List.all_cons, List.all_nil, Bool.and_true, Bool.and_eq_true] at hv ⊢
    exact ⟨hv.1, hv.2.1, hv.2.2.1, hv.2.2.2.1, rfl, rfl, rfl⟩
  have hfin : R ch.length = loD' v D i st (.bytes ch) (.int (hor ch)) (.int (ch.getD m 0).toNat) := by
    rw [hm]
    show loD' v D i st (.bytes ch) (.int (hor (ch.take (m + 1)))) _ = _
    rw [← hm, List.take_length]
  have hm1 : ch.length - 1 = m := by omega
  rw [hm1, ← hfin]
  refine Ex1.forB (b := ch) R H rfl (Ev.loc H ?_ l2) hk (fun p x hx => ?_) (by rw [hfin]; exact hlow _ _) hσ l1
  · rcases hT with rfl | ⟨z, rfl⟩ <;> rfl
  · have hp : p < ch.length := by
      rcases Nat.lt_or_ge p ch.length with h | h
      · exact h
      · rw [List.getElem?_eq_none h] at hx; cases hx
    have hx' : ch.getD p 0 = x := by rw [List.getD_eq_getElem?_getD, hx]; rfl
    have hR : setL "digit" (.int x.toNat) (R p) = loD' v D i st (.bytes ch) (.int (hor (ch.take p))) (.int x.toNat) := by
      cases p with
      | zero => rcases hT with rfl | ⟨z, rfl⟩ <;> rfl
      | succ p => rfl
    have hnext : R (p + 1) = loD' v D i st (.bytes ch) (.int (hor (ch.take p) * 58 + x.toNat : Nat)) (.int x.toNat) := by
      show loD' v D i st (.bytes ch) (.int (hor (ch.take (p + 1)))) (.int (ch.getD p 0).toNat) = _
      rw [hx', List.take_add_one, hx]
      show loD' v D i st (.bytes ch) (.int (hor (ch.take p ++ [x]))) _ = _
      rw [hor_snoc]
    rw [hR, hnext]
    refine Ex.next (Ex1.set H (Ev.bin (Ev.bin (Ev.loc H rfl l3) (Ev.con H gc_baseN g1) (Op2.mulN (n := 8 * p) (m := 6) (Nat.lt_of_lt_of_le (hor_lt _) (Nat.pow_le_pow_right (by decide) (by rw [List.length_take]; omega))) (by decide) (by omega))) (Ev.loc H rfl l1) Op2.addN) l3) Ex.nil
theorem ten_small : ∀ n : Nat, n < 1001 → Builtin.Range.small 0 (n : Int) 10 = true := by decide +kernel
theorem ten_size : ∀ n : Nat, n < 1001 → Builtin.Range.rangeSize 0 (n : Int) 10 = (((n + 9) / 10 : Nat) : Int) := by decide +kernel
end
theorem digT_length : digT.length = 256 := by decide +kernel
theorem trB_length (t b : List UInt8) : (trB t b).length = b.length := by simp [trB]
def cut10 (D : List UInt8) (k : Nat) : List UInt8 := (D.take (10 * k + 10)).drop (10 * k)
theorem cut10_app (D : List UInt8) (k : Nat) : D.take (10 * k) ++ cut10 D k = D.take (10 * (k + 1)) := by
  have e : 10 * (k + 1) = 10 * k + 10 := by omega
  rw [e]
  unfold cut10
  have := List.take_append_drop (10 * k) (D.take (10 * k + 10))
  rw [List.take_take, Nat.min_eq_left (by omega)] at this
  exact this
theorem f_dec_int (v : List UInt8) (hz : v.length ≤ 1000) : FunOk 123 0 false [.bytes v] [] [] [] (.ok (.int (hor (trB digT v)))) := by
  obtain ⟨D, hD⟩ : ∃ D, D = trB digT v := ⟨_, rfl⟩
  have hDl : D.length ≤ 1000 := by rw [hD, trB_length]; exact hz
  obtain ⟨n, hn⟩ : ∃ n, n = (D.length + 9) / 10 := ⟨_, rfl⟩
  rw [← hD]
  let R : Nat → Loc := fun j => match j with
    | 0 => [("v", .bytes v), ("digits", .bytes D), ("i", .int 0)]
    | j + 1 => loD' (.bytes v) (.bytes D) (.int (hor (D.take (10 * (j + 1))))) (.int ((10 * j : Nat) : Int)) (.bytes (cut10 D j)) (.int (hor (cut10 D j))) (.int ((cut10 D j).getD ((cut10 D j).length - 1) 0).toNat)
  refine FunOk.of (ρ₀ := [("v", .bytes v)]) (out := .ret (.int (hor D)) [.rng 0 D.length 10]) (fun P => by k_is) (fun P => by k_is) (fun P s as₀ xs ys X r1 r2 => ?_) rfl (by simp only [List.map]; decide) rfl rfl rfl (by decide) rfl (fun c O hs hdd htn hk => ?_)
  · cases r1 with
    | cons ra r1 =>
    cases r1; cases r2
    exact ⟨_, BindsTo.of_eq rfl, .cons ra .nil⟩
  have H : Fn c _ _ _ _ := ⟨O, by rw [hs], hdd, hk, htn⟩
  refine Ex.next (Ex1.set (v := .bytes D) H (Ev.eq (Ev.meth H.O (Ev.loc H) Meth.translate (Evs.cons (Ev.con H gc_digit) Evs.nil) Kws.nil (Cl.translate digT_length (by omega))) (by rw [hD]))) ?_
  refine Ex.next (Ex1.set H Ev.cint) ?_
  have hdig : ∀ j, (R j).lookup ("digits" : PySem.Str) = some (V.bytes D) := fun j => by cases j <;> rfl
  refine Ex.next (ρ' := R n) (σ₁ := [.rng 0 D.length 10]) (Ex1.for_ (v := .ref 0) n R (fun _ => [.rng 0 D.length 10]) (fun j => .itR ((10 * j : Nat) : Int) ((n : Int) - (j : Nat)) 10) (fun j => .int ((10 * j : Nat) : Int)) H.O (by rw [H.hs]; rfl) rfl ?_ ?_ (fun _ _ => rfl) (Nat.le_of_ble_eq_true rfl) (fun j hj => ⟨?_, ?_⟩) (NxEnd.range H.O (by rw [H.hk]; exact Nat.zero_le _) (by omega)) ?_ rfl) ?_
  · exact Ev.bc H bt_range (Evs.cons Ev.cint (Evs.cons (Ev.bc H bt_len (Evs.cons (Ev.loc H) Evs.nil) Kws.nil (Cl.lenB (by omega))) (Evs.cons (Ev.con H gc_chunk) Evs.nil))) Kws.nil (Cl.range3 (by decide) (by decide +kernel))
  · have h1 := Itr.range (c := c) (σ := [.rng 0 D.length 10]) (i := 0) (x := 0) (y := D.length) (z := 10) rfl (ten_small _ (by omega))
    rw [ten_size _ (by omega), ← hn] at h1
    have e : (n : Int) = (n : Int) - ((0 : Nat) : Int) := by omega
    rw [e] at h1
    exact h1
  · have h1 := Nx.range (c := c) (σ := [.rng 0 D.length 10, .itR ((10 * j : Nat) : Int) ((n : Int) - (j : Nat)) 10]) (j := 1) (x := ((10 * j : Nat) : Int)) (l := (n : Int) - (j : Nat)) (st := 10) rfl (by rw [H.hk]; exact Nat.zero_le _) (by omega)
    have e1 : ((10 * j : Nat) : Int) + 10 = ((10 * (j + 1) : Nat) : Int) := by omega
    have e2 : (n : Int) - (j : Nat) - 1 = (n : Int) - ((j + 1 : Nat) : Int) := by omega
    rw [e1, e2] at h1
    exact h1
  · have hcl : (cut10 D j).length ≤ 10 := by unfold cut10; rw [List.length_drop, List.length_take]; omega
    have hcne : cut10 D j ≠ [] := by
      intro e
      have : (cut10 D j).length = 0 := by rw [e]; rfl
      unfold cut10 at this
      rw [List.length_drop, List.length_take] at this
      omega
    have hR : R (j + 1) = setL "i" (.int (hor (D.take (10 * j)) * 58 ^ (cut10 D j).length + hor (cut10 D j) : Nat)) (loD' (.bytes v) (.bytes D) (.int (hor (D.take (10 * j)))) (.int ((10 * j : Nat) : Int)) (.bytes (cut10 D j)) (.int (hor (cut10 D j))) (.int ((cut10 D j).getD ((cut10 D j).length - 1) 0).toNat)) := by
      rw [← hor_app, cut10_app]
      rfl
    have e3 : (10 * j : Nat) + (10 : Int) = ((10 * j + 10 : Nat) : Int) := by omega
    rw [hR]
    refine Ex.next (ρ' := setL "chunk" (.bytes (cut10 D j)) (setL "start" (.int ((10 * j : Nat) : Int)) (R j))) (Ex1.set H (Ev.eq (Ev.sliceB (Ev.loc H (v := .bytes D) (by cases j <;> rfl)) (Part.some (Ev.loc H (v := .int ((10 * j : Nat) : Int)) (by cases j <;> rfl))) (Part.some (Ev.eq (Ev.bin (Ev.loc H (v := .int ((10 * j : Nat) : Int)) (by cases j <;> rfl)) (Ev.con H gc_chunk) Op2.add) (congrArg V.int e3))) (by omega)) ?_)) ?_
    · rw [sl_nn _ _ _ (by omega)]
      rfl
    refine Ex.next (Ex1.set H Ev.cint) ?_
    refine Ex.next (inB (σ := [.rng 0 D.length 10, .itR ((10 * (j + 1) : Nat) : Int) ((n : Int) - ((j + 1 : Nat) : Int)) 10]) (v := .bytes v) (D := .bytes D) (i := .int (hor (D.take (10 * j)))) (st := .int ((10 * j : Nat) : Int)) (ch := cut10 D j) H (by rw [← H.hk, hk]; exact Nat.zero_le _) (by omega) hcne rfl rfl ?_ rfl rfl rfl rfl) ?_
    · cases j with
      | zero => exact .inl rfl
      | succ j => exact .inr ⟨_, rfl⟩
    · refine Ex.next (Ex1.set H (Ev.bin (Ev.bin (Ev.loc H) (Ev.bin (Ev.con H gc_baseN) (Ev.bc H bt_len (Evs.cons (Ev.loc H) Evs.nil) Kws.nil (Cl.lenB (by omega))) (Op2.powN (by omega) (by decide))) (Op2.mulN (n := 8 * (10 * j)) (m := 60) (Nat.lt_of_lt_of_le (hor_lt _) (Nat.pow_le_pow_right (by decide) (by rw [List.length_take]; omega))) ?_ (by omega))) (Ev.loc H) Op2.addN)) Ex.nil
      refine Nat.lt_of_le_of_lt (Nat.pow_le_pow_right (by decide) hcl) (by decide)
  · cases n <;> rfl
  · refine Ex.ret (Ex1.ret (Ev.loc H ?_))
    have hall : D.take (10 * n) = D := List.take_of_length_le (by omega)
    cases n with
    | zero =>
      have : D = [] := List.length_eq_zero_iff.mp (by omega)
      rw [this]
      rfl
    | succ m =>
      show some (V.int (hor (D.take (10 * (m + 1))))) = _
      rw [hall]
end Mine

/-! P11 -/
namespace Mine
def okB (v : List UInt8) : Bool := (delB alpha v).isEmpty
def strip1 (v : List UInt8) : List UInt8 := lstripB [49] v
theorem strip1_le (v : List UInt8) : (strip1 v).length ≤ v.length := dropWhile_le _ _
def nby (I : Nat) : Nat := (Builtin.Int.intBits (I : Int) + 7) / 8
def decI (v : List UInt8) : Nat := hor (trB digT (strip1 v))
def decB (v : List UInt8) : List UInt8 := List.replicate (v.length - (strip1 v).length) 0 ++ (if (strip1 v).length = 0 then [] else beB (nby (decI v)) (decI v))
theorem bits_le {I k : Nat} (h : I < 2 ^ k) : Builtin.Int.intBits (I : Int) ≤ k := intBits_le_iff.mpr (by rw [Int.natAbs_natCast]; exact h)
theorem lt_bits (I : Nat) : I < 2 ^ Builtin.Int.intBits (I : Int) := by
  have := (intBits_le_iff (x := (I : Int)) (m := Builtin.Int.intBits (I : Int))).mp (Nat.le_refl _)
  rw [Int.natAbs_natCast] at this
  exact this
theorem lt_nby (I : Nat) : I < 256 ^ nby I := by
  have e : (256 : Nat) = 2 ^ 8 := by decide
  rw [e, ← Nat.pow_mul]
  refine Nat.lt_of_lt_of_le (lt_bits I) (Nat.pow_le_pow_right (by decide) ?_)
  unfold nby
  omega
theorem decI_lt (v : List UInt8) : decI v < 2 ^ (8 * (strip1 v).length) := by
  have := hor_lt (trB digT (strip1 v))
  rw [trB_length] at this
  exact this
theorem nby_le (v : List UInt8) : nby (decI v) ≤ (strip1 v).length := by
  have := bits_le (decI_lt v)
  unfold nby
  omega
theorem beB_length (n x : Nat) : (beB n x).length = n := by simp [beB]
theorem decB_length (v : List UInt8) : (decB v).length ≤ v.length := by
  have h1 := nby_le v
  have h2 := strip1_le v
  unfold decB
  rw [List.length_append, List.length_replicate]
  split
  · simp
  · rw [beB_length]; omega
theorem f_b58decodeX (v : List UInt8) (hz : v.length ≤ 1000) (hx : okB v = false) : FunOk 130 1 false [.bytes v] [] [] [] (.error 37) := by
  refine FunOk.of (ρ₀ := [("v", .bytes v)]) (out := .exc true 37 []) (fun P => by k_is) (fun P => by k_is) (fun P s as₀ xs ys X r1 r2 => ?_) rfl (by simp only [List.map]; decide) rfl rfl rfl (by decide) rfl (fun c O hs hdd htn hk => ?_)
  · cases r1 with
    | cons ra r1 =>
    cases r1; cases r2
    exact ⟨_, BindsTo.of_eq rfl, .cons ra .nil⟩
  have H : Fn c _ _ _ _ := ⟨O, by rw [hs], hdd, hk, htn⟩
  refine Ex.next (Ex1.set H (Ev.bc H bt_bytes (Evs.cons (Ev.loc H) Evs.nil) Kws.nil Cl.bytesB)) ?_
  have hd : (delB alpha v).length ≤ 1000 := Nat.le_trans (by unfold delB; exact List.length_filter_le _ _) hz
  refine Ex.exc (Ex1.ifT (Tst.of (Ev.meth H.O (Ev.loc H) Meth.translate (Evs.cons Ev.cnone (Evs.cons (Ev.con H gc_alpha) Evs.nil)) Kws.nil (Cl.delete (by omega))) (Tru.bytes (by omega) (by unfold okB at hx; rw [hx]; rfl))) ?_)
  refine Ex.next (Ex1.set H Ev.cstr) ?_
  exact Ex.exc (Ex1.raiseV H (Ev.loc H))
theorem f_b58decode (v : List UInt8) (hz : v.length ≤ 1000) (hx : okB v = true) : FunOk 130 1 false [.bytes v] [] [] [] (.ok (.bytes (decB v))) := by
  refine FunOk.of (ρ₀ := [("v", .bytes v)]) (out := .ret (.bytes (decB v)) []) (fun P => by k_is) (fun P => by k_is) (fun P s as₀ xs ys X r1 r2 => ?_) rfl (by simp only [List.map]; decide) rfl rfl rfl (by decide) rfl (fun c O hs hdd htn hk => ?_)
  · cases r1 with
    | cons ra r1 =>
    cases r1; cases r2
    exact ⟨_, BindsTo.of_eq rfl, .cons ra .nil⟩
  have H : Fn c _ _ _ _ := ⟨O, by rw [hs], hdd, hk, htn⟩
  have hsl := strip1_le v
  have hnb := nby_le v
  refine Ex.next (Ex1.set H (Ev.bc H bt_bytes (Evs.cons (Ev.loc H) Evs.nil) Kws.nil Cl.bytesB)) ?_
  have hd : (delB alpha v).length ≤ 1000 := Nat.le_trans (by unfold delB; exact List.length_filter_le _ _) hz
  refine Ex.next (Ex1.ifF (Tst.of (Ev.meth H.O (Ev.loc H) Meth.translate (Evs.cons Ev.cnone (Evs.cons (Ev.con H gc_alpha) Evs.nil)) Kws.nil (Cl.delete (by omega))) (Tru.bytes (by omega) (by unfold okB at hx; rw [hx]; rfl))) Ex.nil) ?_
  refine Ex.next (Ex1.set H (Ev.bc H bt_len (Evs.cons (Ev.loc H) Evs.nil) Kws.nil (Cl.lenB (by omega)))) ?_
  refine Ex.next (Ex1.set (v := .bytes (strip1 v)) H (Ev.meth H.O (Ev.loc H) Meth.lstrip (Evs.cons (Ev.eq (Ev.sliceB (Ev.con H gc_alpha) Part.none (Part.some Ev.cint) (by decide)) (show _ = V.bytes [49] from congrArg V.bytes (by decide))) Evs.nil) Kws.nil (Cl.lstrip (by omega)))) ?_
  refine Ex.next (Ex1.set H (Ev.bc H bt_len (Evs.cons (Ev.loc H) Evs.nil) Kws.nil (Cl.lenB (by omega)))) ?_
  refine Ex.next (Ex1.augL H (Ev.loc H) Op2.isub) ?_
  refine Ex.next (Ex1.set (v := .bytes (List.replicate (v.length - (strip1 v).length) 0)) H (Ev.eq (Ev.bin Ev.cbytes (Ev.loc H) (Op2.mulB1 (by omega) (by omega))) ?_)) ?_
  · congr 2
    omega
  by_cases he : (strip1 v).length = 0
  · have e0 : decB v = List.replicate (v.length - (strip1 v).length) 0 := by
      unfold decB
      rw [if_pos he, List.append_nil]
    rw [e0]
    refine Ex.next (Ex1.ifF (Tst.of (Ev.loc H) (Tru.int (neF he))) Ex.nil) ?_
    exact Ex.ret (Ex1.ret (Ev.loc H))
  · have e0 : decB v = List.replicate (v.length - (strip1 v).length) 0 ++ beB (nby (decI v)) (decI v) := by
      unfold decB
      rw [if_neg he]
    rw [e0]
    have e7 : Int.fdiv ((Builtin.Int.intBits (decI v : Int) : Int) + 7) 8 = (nby (decI v) : Int) := by
      have := fdiv_nat (Builtin.Int.intBits (decI v : Int) + 7) 8
      push_cast at this
      exact this
    refine Ex.next (Ex1.ifT (Tst.of (Ev.loc H) (Tru.int (neT he)))
      (Ex.next (Ex1.set H (Ev.fc H gf_b58decode_to_int (Evs.cons (Ev.loc H) Evs.nil) Kws.nil (Cl.fun0 (f_dec_int (strip1 v) (by omega)) H.O (by rw [H.hd]; decide) noTn rfl rfl)))
        (Ex.next (Ex1.set (v := .int (nby (decI v))) H (Ev.eq (Ev.bin (Ev.bin (Ev.meth0 H.O (Ev.loc H) Meth.bit_length Cl.bit_length) Ev.cint Op2.add) Ev.cint (Op2.fdiv (by decide) (by decide))) (congrArg V.int e7)))
          (Ex.next (Ex1.augL (v := .bytes (List.replicate (v.length - (strip1 v).length) 0)) (u := .bytes (beB (nby (decI v)) (decI v))) (σ₁ := []) H (Ev.meth H.O (Ev.loc H) Meth.to_bytes (Evs.cons (Ev.loc H) Evs.nil) (Kws.cons Ev.cstr (Kws.cons Ev.cbool Kws.nil)) (Cl.to_bytesK (x := decI v) (by omega) (lt_nby _))) (Op2.iaddB (by rw [List.length_replicate, beB_length]; omega))) Ex.nil)))) ?_
    exact Ex.ret (Ex1.ret (Ev.loc H))
end Mine

/-! P12 -/
namespace Mine
def Asc (b : List UInt8) : Prop := ∀ x ∈ b, x.toNat < 128
theorem f_ascii (b : List UInt8) (hb : Asc b) (hz : b.length ≤ 16777216) : FunOk 145 0 false [.str (asS b)] [] [] [] (.ok (.bytes b)) := by
  refine FunOk.of (ρ₀ := [("v", .str (asS b))]) (out := .ret (.bytes b) []) (fun P => by k_is) (fun P => by k_is) (fun P s as₀ xs ys X r1 r2 => ?_) rfl (by simp only [List.map]; decide) rfl rfl rfl (by decide) rfl (fun c O hs hdd htn hk => ?_)
  · cases r1 with
    | cons ra r1 =>
    cases r1; cases r2
    exact ⟨_, BindsTo.of_eq rfl, .cons ra .nil⟩
  have H : Fn c _ _ _ _ := ⟨O, by rw [hs], hdd, hk, htn⟩
  exact Ex.ret (Ex1.tryRet (Ex.ret (Ex1.ret (Ev.meth H.O (Ev.loc H) Meth.encode (Evs.cons Ev.cstr Evs.nil) Kws.nil (Cl.encode hb hz)))))
theorem sub_sb : isSubtype (.type "str") (.type "bytes") = pure false := by rw [isSubtype_type]; kernel_rfl

/-- what decode tells of octets -/
def bodyB (v : List UInt8) : List UInt8 := sl (decB v) none (some (-4))
def tailB (v : List UInt8) : List UInt8 := sl (decB v) (some (-4)) none
def tell (v : List UInt8) : Option (List UInt8) :=
  if 112 < v.length then none else if okB v = false then none else if (decB v).length < 4 then none else if tailB v = chkB (bodyB v) then some (bodyB v) else none
inductive Sz : V → Prop where
  | none : Sz .none
  | int (n : Nat) : n < 1001 → Sz (.int n)
  | bool : Sz (.bool true)
  | str : Sz (.str "5")
def szOut (p : List UInt8) : V → Out
  | .none => .ret (.bytes p) []
  | .int n => if (n == (p.length : Int)) = true then .ret (.bytes p) [] else .exc true 37 []
  | _ => .exc true 49 []
def szRes (p : List UInt8) : V → Except Nat V
  | .none => .ok (.bytes p)
  | .int n => if (n == (p.length : Int)) = true then .ok (.bytes p) else .error 37
  | _ => .error 49
def decOut (v : List UInt8) (os : V) : Out :=
  if 112 < v.length then .exc true 37 [] else if okB v = false then .exc false 37 [] else if (decB v).length < 4 then .exc true 37 [] else if tailB v = chkB (bodyB v) then szOut (bodyB v) os else .exc true 37 []
def decRes (v : List UInt8) (os : V) : Except Nat V :=
  match tell v with
  | none => .error 37
  | some p => szRes p os
theorem decOut_eq (v : List UInt8) {os : V} (h : Sz os) : outOf (decOut v os) = some (decRes v os) := by
  unfold decOut decRes tell
  split
  · rfl
  split
  · rfl
  split
  · rfl
  split
  · cases h with
    | none => rfl
    | int n hn =>
      show outOf (if _ then _ else _) = some (if _ then _ else _)
      split <;> rfl
    | bool => rfl
    | str => rfl
  · rfl
theorem str_tup {b : PySem.Str} {c : Cx} {σ : List Cell} : AnsAll c σ (.str b) "str" ["bytes", "bytearray", "memoryview"] [false, false, false] :=
  ⟨Ans.strF (by decide +kernel) F.isi_meta_bytes sub_sb, Ans.strF (by decide +kernel) F.isi_meta_bytearray (by rw [isSubtype_type]; kernel_rfl), Ans.strF (by decide +kernel) meta_mv (by rw [isSubtype_type]; kernel_rfl), trivial⟩
theorem is_bool (i : Bool) : FunOk 73 0 false [.bool i] [] [] [] (.ok (.bool false)) := f_is_integer (.bool i) "bool" true true rfl (fun c σ => Ans.boolT F.isi_meta_int (by rw [isSubtype_type]; kernel_rfl)) (fun c σ => Ans.boolT F.isi_meta_bool (by rw [isSubtype_type]; kernel_rfl))
theorem is_str (x : PySem.Str) : FunOk 73 0 false [.str x] [] [] [] (.ok (.bool false)) := f_is_integer (.str x) "str" false false rfl (fun c σ => Ans.strF (by decide +kernel) F.isi_meta_int (by rw [isSubtype_type]; kernel_rfl)) (fun c σ => Ans.strF (by decide +kernel) F.isi_meta_bool (by rw [isSubtype_type]; kernel_rfl))
theorem hexS_length (b : List UInt8) : (hexS b).length = 2 * b.length := by
  show (hexL b).toArray.size = _
  simp [hexL_length]
theorem sl_tail (r : List UInt8) (h : 4 ≤ r.length) : (sl r (some (-4)) none).length = 4 := by
  unfold sl
  have := clipAt_neg r.length 4 (by decide)
  simp only [Option.elim]
  have e : clipAt r.length (-4) = r.length - 4 := this
  rw [e, List.length_take, List.length_drop]
  omega
section
variable {c : Cx} {ρ ρ' : Loc} {σ σ₁ σ₂ σ₃ σ₄ : List Cell} {o : Res} {nm : Names} {d k : Nat} {tn : Bool}
theorem Op2.neB' {a b : List UInt8} {r : Bool} (h : (a != b) = r) : Op2 c σ (.bytes a) (.bytes b) (compareOp .NotEq) (.val (.bool r) σ) := by subst h; exact Op2.neB
theorem Ex1.set2s {x y : PySem.Str} {px py tpos pos : Pos} {kk : Nat} {e : PySem.Expr} {v u : V} (H : Fn c nm d k tn) (h : Ev c ρ σ e (.val (.ref σ.length) (σ ++ [.tuple [v, u]]))) (hρ : (setL x v (setL y u ρ)).all (fun p => p.2.low σ.length) = true) (hσ : σ.all (Cell.low σ.length) = true)
    (hx : nm.lookup x = some .local := by rfl) (hy : nm.lookup y = some .local := by rfl)
    (hs : swapsWithSole [.Tuple [.Name x px, .Name y py] kk tpos] e pos.line c.env = pure false := by rfl) (hw : swappedStores [.Tuple [.Name x px, .Name y py] kk tpos] e c.env = pure (some [x, y]) := by rfl) :
    Ex1 c ρ σ (.Assign [.Tuple [.Name x px, .Name y py] kk tpos] e pos) (.next (setL x v (setL y u ρ)) σ) :=
  Ex1.drop (tl := [.tuple [v, u]]) (Ex1.assign2s H.O h (by simp) (by rw [H.hs]; exact hx) (by rw [H.hs]; exact hy) hs hw) (Nat.le_refl _) hρ hσ
end
theorem bodyB_length (v : List UInt8) : (bodyB v).length ≤ v.length := Nat.le_trans (sl_le _ _ _) (decB_length v)
theorem f_decode_go (x : V) (v : List UInt8) (os : V) (hx : x = .bytes v ∨ (x = .str (asS v) ∧ Asc v)) (hz : v.length ≤ 1000) (hos : Sz os) : FunOk 152 4 false [x, os] ["quote_checksum"] [.bool true] [] (decRes v os) := by
  refine FunOk.of (ρ₀ := [("v", x), ("out_size", os), ("quote_checksum", .bool true)]) (out := decOut v os) (fun P => by k_is) (fun P => by k_is) (fun P s as₀ xs ys X r1 r2 => ?_) rfl (by simp only [List.map]; decide) rfl rfl rfl (by decide) (decOut_eq v hos) (fun c O hs hdd htn hk => ?_)
  · cases r1 with
    | cons ra r1 =>
    cases r1 with
    | cons rb r1 =>
    cases r1; cases r2 with
    | cons rc r2 =>
    cases r2
    exact ⟨_, BindsTo.of_eq rfl, .cons ra (.cons rb (.cons (rc.ext ⟨as₀, rfl⟩) .nil))⟩
  have H : Fn c _ _ _ _ := ⟨O, by rw [hs], hdd, hk, htn⟩
  have hosl : os.low 0 = true := by cases hos <;> rfl
  refine Ex.next (ρ' := [("v", .bytes v), ("out_size", os), ("quote_checksum", .bool true)]) (σ₁ := []) ?_ ?_
  · rcases hx with rfl | ⟨rfl, ha⟩
    · exact Ex1.drop (σ₁ := []) (tl := [tyTup]) (Ex1.ifF (Tst.of (Ev.bc H bt_isinstance (Evs.cons (Ev.loc H) (Evs.cons (Ev.bt H bt_str) Evs.nil)) Kws.nil (Cl.isi (Ans.bytesF (by decide +kernel) F.isi_meta_str sub_bs))) Tru.bool)
        (Ex.next (Ex1.ifF (Tst.not (Tst.of (Ev.bc H bt_isinstance (Evs.cons (Ev.loc H) (Evs.cons (Ev.btys H) Evs.nil)) Kws.nil (Cl.isiT rfl typeIs_bytesV bytes_tup rfl)) Tru.bool)) Ex.nil) Ex.nil)) (Nat.le_of_ble_eq_true rfl) (by show (V.low 0 os && true) = true; rw [hosl]; rfl) rfl
    · exact Ex1.ifT (Tst.of (Ev.bc H bt_isinstance (Evs.cons (Ev.loc H) (Evs.cons (Ev.bt H bt_str) Evs.nil)) Kws.nil (Cl.isi Ans.strT)) Tru.bool)
        (Ex.next (Ex1.set (v := .bytes v) H (Ev.fc H gf_ascii_bytes (Evs.cons (Ev.loc H) Evs.nil) Kws.nil (Cl.fun0 (f_ascii v ha (by omega)) H.O (by rw [H.hd]; decide) noTn rfl rfl))) Ex.nil)
  refine Ex.next Ex1.pass ?_
  unfold decOut
  by_cases h1 : 112 < v.length
  · rw [if_pos h1]
    refine Ex.exc (Ex1.ifT (Tst.cmp (Ev.bc H bt_len (Evs.cons (Ev.loc H) Evs.nil) Kws.nil (Cl.lenB (by omega))) (Ev.con H gc_max) (Op2.gt' (decide_eq_true (by omega)))) ?_)
    refine Ex.next (Ex1.set H (Ev.joined (Jn.cons (Ev.txt (n := 40) Ev.cstr (by decide)) (Jn.cons (Ev.fmtI (i := v.length) (Ev.bc H bt_len (Evs.cons (Ev.loc H) Evs.nil) Kws.nil (Cl.lenB (by omega))) (by omega)) (Jn.cons (Ev.txt (n := 40) Ev.cstr (by decide)) (Jn.cons (Ev.fmtI (i := 112) (Ev.con H gc_max) (by omega)) Jn.nil)))) (by decide))) ?_
    exact Ex.exc (Ex1.raiseV H (Ev.loc H))
  rw [if_neg h1]
  refine Ex.next (Ex1.ifF (Tst.cmp (Ev.bc H bt_len (Evs.cons (Ev.loc H) Evs.nil) Kws.nil (Cl.lenB (by omega))) (Ev.con H gc_max) (Op2.gt' (decide_eq_false (by omega)))) Ex.nil) ?_
  by_cases h2 : okB v = false
  · rw [if_pos h2]
    exact Ex.exc (Ex1.assignX (Ev.fc H gf_b58decode (Evs.cons (Ev.loc H) Evs.nil) Kws.nil (Cl.fun0 (f_b58decodeX v hz h2) H.O (by rw [H.hd]; decide) noTn rfl rfl)))
  rw [if_neg h2]
  have h2' : okB v = true := by simpa using h2
  have hrl := decB_length v
  refine Ex.next (Ex1.set H (Ev.fc H gf_b58decode (Evs.cons (Ev.loc H) Evs.nil) Kws.nil (Cl.fun0 (f_b58decode v hz h2') H.O (by rw [H.hd]; decide) noTn rfl rfl))) ?_
  by_cases h3 : (decB v).length < 4
  · rw [if_pos h3]
    refine Ex.exc (Ex1.ifT (Tst.cmp (Ev.bc H bt_len (Evs.cons (Ev.loc H) Evs.nil) Kws.nil (Cl.lenB (by omega))) Ev.cint (Op2.lt' (decide_eq_true (by omega)))) ?_)
    refine Ex.next (Ex1.set H (Ev.txt (n := 40) Ev.cstr (by decide))) ?_
    refine Ex.next (Ex1.augL H (Ev.joined (Jn.cons (Ev.txt (n := 40) Ev.cstr (by decide)) (Jn.cons (Ev.fmtI (i := (decB v).length) (Ev.bc H bt_len (Evs.cons (Ev.loc H) Evs.nil) Kws.nil (Cl.lenB (by omega))) (by omega)) Jn.nil)) (by decide)) (Op2.iaddT (n := 40) (by decide))) ?_
    exact Ex.exc (Ex1.raiseV H (Ev.loc H))
  rw [if_neg h3]
  refine Ex.next (Ex1.ifF (Tst.cmp (Ev.bc H bt_len (Evs.cons (Ev.loc H) Evs.nil) Kws.nil (Cl.lenB (by omega))) Ev.cint (Op2.lt' (decide_eq_false (by omega)))) Ex.nil) ?_
  have ht4 : (tailB v).length = 4 := sl_tail _ (by omega)
  have hbl := bodyB_length v
  refine Ex.next (Ex1.set2s (v := .bytes (bodyB v)) (u := .bytes (tailB v)) H (Ev.tuple (Evs.cons (Ev.sliceB (Ev.loc H) Part.none (Part.some (Ev.un Ev.cint Op1.neg)) (by omega)) (Evs.cons (Ev.sliceB (Ev.loc H) (Part.some (Ev.un Ev.cint Op1.neg)) Part.none (by omega)) Evs.nil)) (Nat.le_of_ble_eq_true rfl)) (by show (true && (V.low 0 os && true)) = true; rw [hosl]; rfl) rfl rfl rfl (by rfl) (by show swappedStores _ _ (envOf c.qual c.scope c.L c.f c.cd) = _; rw [hs]; with_unfolding_all rfl)) ?_
  refine Ex.next (Ex1.set H (Ev.fc H gf_hash256 (Evs.cons (Ev.loc H) Evs.nil) Kws.nil (Cl.fun0 (f_hash256 (bodyB v) (by omega)) H.O (by rw [H.hd]; decide) noTn rfl rfl))) ?_
  by_cases h4 : tailB v = chkB (bodyB v)
  · rw [if_pos h4]
    refine Ex.next (Ex1.ifF (Tst.cmp (Ev.loc H) (Ev.sliceB (Ev.loc H) Part.none (Part.some Ev.cint) (by rw [hashB_length]; decide)) (Op2.neB' (by rw [h4]; unfold chkB; simp))) Ex.nil) ?_
    cases hos with
    | none =>
      refine Ex.next (Ex1.ifF (Tst.bool (Tsts.andF (Tst.cmp (Ev.loc H) Ev.cnone (Op2.isNotNone rfl)))) Ex.nil) ?_
      exact Ex.ret (Ex1.ifT (Tst.bool (Tsts.orT (Tst.cmp (Ev.loc H) Ev.cnone (Op2.isNone rfl)))) (Ex.ret (Ex1.ret (Ev.loc H))))
    | int n hn =>
      refine Ex.next (Ex1.ifF (Tst.bool (Tsts.andT (Tst.cmp (Ev.loc H) Ev.cnone (Op2.isNotNone rfl)) (Tsts.andF (Tst.not (b := true) (Tst.of (Ev.fc H gf_is_integer (Evs.cons (Ev.loc H) Evs.nil) Kws.nil (Cl.fun0 (is_int _) H.O (by rw [H.hd]; decide) noTn rfl rfl)) Tru.bool))))) Ex.nil) ?_
      show Ex c _ _ _ (if _ then _ else _)
      by_cases h5 : ((n : Int) == ((bodyB v).length : Int)) = true
      · rw [if_pos h5]
        exact Ex.ret (Ex1.ifT (Tst.bool (Tsts.orF (Tst.cmp (Ev.loc H) Ev.cnone (Op2.isNone rfl)) (Tsts.orT (Tst.cmp (Ev.bc H bt_len (Evs.cons (Ev.loc H) Evs.nil) Kws.nil (Cl.lenB (by omega))) (Ev.loc H) (Op2.eqI' (by rw [BEq.comm]; exact h5)))))) (Ex.ret (Ex1.ret (Ev.loc H))))
      · rw [if_neg h5]
        refine Ex.next (Ex1.ifF (Tst.bool (Tsts.orF (Tst.cmp (Ev.loc H) Ev.cnone (Op2.isNone rfl)) (Tsts.orF (Tst.cmp (Ev.bc H bt_len (Evs.cons (Ev.loc H) Evs.nil) Kws.nil (Cl.lenB (by omega))) (Ev.loc H) (Op2.eqI' (by rw [BEq.comm]; simpa using h5))) Tsts.orNil))) Ex.nil) ?_
        refine Ex.next (Ex1.set H (Ev.txt (n := 40) Ev.cstr (by decide))) ?_
        refine Ex.next (Ex1.augL H (Ev.joined (Jn.cons (Ev.fmtI (i := (bodyB v).length) (Ev.bc H bt_len (Evs.cons (Ev.loc H) Evs.nil) Kws.nil (Cl.lenB (by omega))) (by omega)) (Jn.cons (Ev.txt (n := 40) Ev.cstr (by decide)) (Jn.cons (Ev.fmtT (Ev.fc H gf_message_text (Evs.cons (Ev.loc H) Evs.nil) Kws.nil (Cl.fun0 (f_message_int n hn) H.O (by rw [H.hd]; decide) noTn rfl rfl)) (by decide)) Jn.nil))) (by decide)) (Op2.iaddT (n := 40) (by decide))) ?_
        exact Ex.exc (Ex1.raiseV H (Ev.loc H))
    | bool =>
      refine Ex.exc (Ex1.ifT (Tst.bool (Tsts.andT (Tst.cmp (Ev.loc H) Ev.cnone (Op2.isNotNone rfl)) (Tsts.andT (Tst.not (b := false) (Tst.of (Ev.fc H gf_is_integer (Evs.cons (Ev.loc H) Evs.nil) Kws.nil (Cl.fun0 (is_bool _) H.O (by rw [H.hd]; decide) noTn rfl rfl)) Tru.bool)) Tsts.andNil))) ?_)
      refine Ex.next (Ex1.set H (Ev.joined (Jn.cons (Ev.txt (n := 40) Ev.cstr (by decide)) (Jn.cons (Ev.fmtT (Ev.tyName (Ev.bc H bt_type (Evs.cons (Ev.loc H) Evs.nil) Kws.nil (Cl.typeOf (Tx := "bool") (fun ρ g as s x I r => by cases r; rfl) (by decide +kernel))) H.O (by decide +kernel) (by decide +kernel) (name_bool c.w) rfl (by decide +kernel) rfl) (by decide)) Jn.nil)) (by decide))) ?_
      exact Ex.exc (Ex1.raiseT H (Ev.loc H))
    | str =>
      refine Ex.exc (Ex1.ifT (Tst.bool (Tsts.andT (Tst.cmp (Ev.loc H) Ev.cnone (Op2.isNotNone rfl)) (Tsts.andT (Tst.not (b := false) (Tst.of (Ev.fc H gf_is_integer (Evs.cons (Ev.loc H) Evs.nil) Kws.nil (Cl.fun0 (is_str _) H.O (by rw [H.hd]; decide) noTn rfl rfl)) Tru.bool)) Tsts.andNil))) ?_)
      refine Ex.next (Ex1.set H (Ev.joined (Jn.cons (Ev.txt (n := 40) Ev.cstr (by decide)) (Jn.cons (Ev.fmtT (Ev.tyName (Ev.bc H bt_type (Evs.cons (Ev.loc H) Evs.nil) Kws.nil (Cl.typeOf (Tx := "str") (fun ρ g as s x I r => by cases r; rfl) (by decide +kernel))) H.O (by decide +kernel) (by decide +kernel) (name_str c.w) rfl (by decide +kernel) rfl) (by decide)) Jn.nil)) (by decide))) ?_
      exact Ex.exc (Ex1.raiseT H (Ev.loc H))
  · rw [if_neg h4]
    refine Ex.exc (Ex1.ifT (Tst.cmp (Ev.loc H) (Ev.sliceB (Ev.loc H) Part.none (Part.some Ev.cint) (by rw [hashB_length]; decide)) (Op2.neB' (by unfold chkB at h4; simpa using h4))) ?_)
    refine Ex.next (Ex1.set H (Ev.txt (n := 40) Ev.cstr (by decide))) ?_
    refine Ex.next (Ex1.ifT (Tst.of (Ev.loc H) Tru.bool) (Ex.next (Ex1.augL H (Ev.joined
      (Jn.cons (Ev.txt (n := 40) Ev.cstr (by decide)) (Jn.cons (Ev.fmtT (n := 8) (Ev.txt (Ev.meth0 H.O (Ev.loc H) Meth.hex (Cl.hex (by omega))) (by rw [hexS_length]; omega)) (by decide))
        (Jn.cons (Ev.txt (n := 40) Ev.cstr (by decide)) (Jn.cons (Ev.fmtT (n := 8) (Ev.txt (Ev.meth0 H.O (Ev.sliceB (Ev.loc H) Part.none (Part.some Ev.cint) (by rw [hashB_length]; decide)) Meth.hex (Cl.hex (by have := chkB_length (bodyB v); unfold chkB at this; omega))) (by have := chkB_length (bodyB v); unfold chkB at this; rw [hexS_length]; omega)) (by decide)) Jn.nil)))) (by decide)) (Op2.iaddT (n := 40) (by decide))) Ex.nil)) ?_
    exact Ex.exc (Ex1.raiseV H (Ev.loc H))
end Mine

/-! P13 -/
namespace Mine
theorem f_decode_intT (i : Int) : FunOk 152 4 false [.int i, .none] ["quote_checksum"] [.bool true] [] (.error 49) := by
  refine FunOk.of (ρ₀ := [("v", .int i), ("out_size", .none), ("quote_checksum", .bool true)]) (out := .exc true 49 [tyTup]) (fun P => by k_is) (fun P => by k_is) (fun P s as₀ xs ys X r1 r2 => ?_) rfl (by simp only [List.map]; decide) rfl rfl rfl (by decide) rfl (fun c O hs hdd htn hk => ?_)
  · cases r1 with
    | cons ra r1 =>
    cases r1 with
    | cons rb r1 =>
    cases r1; cases r2 with
    | cons rc r2 =>
    cases r2
    exact ⟨_, BindsTo.of_eq rfl, .cons ra (.cons rb (.cons (rc.ext ⟨as₀, rfl⟩) .nil))⟩
  have H : Fn c _ _ _ _ := ⟨O, by rw [hs], hdd, hk, htn⟩
  refine Ex.exc (Ex1.ifF (Tst.of (Ev.bc H bt_isinstance (Evs.cons (Ev.loc H) (Evs.cons (Ev.bt H bt_str) Evs.nil)) Kws.nil (Cl.isi (Ans.intF (by decide +kernel) F.isi_meta_str (by rw [isSubtype_type]; kernel_rfl)))) Tru.bool)
    (Ex.exc (Ex1.ifT (Tst.not (b := false) (Tst.of (Ev.bc H bt_isinstance (Evs.cons (Ev.loc H) (Evs.cons (Ev.btys H) Evs.nil)) Kws.nil (Cl.isiT (Ts := ["bytes", "bytearray", "memoryview"]) (bs := [false, false, false]) rfl (fun ρ g as s x I r => (Ans.intT ρ g as s x I r).1)
      ⟨Ans.intF (by decide +kernel) F.isi_meta_bytes (by rw [isSubtype_type]; kernel_rfl), Ans.intF (by decide +kernel) F.isi_meta_bytearray (by rw [isSubtype_type]; kernel_rfl), Ans.intF (by decide +kernel) meta_mv (by rw [isSubtype_type]; kernel_rfl), trivial⟩ rfl)) Tru.bool)) ?_)))
  refine Ex.next (Ex1.set H (Ev.joined (Jn.cons (Ev.txt (n := 40) Ev.cstr (by decide)) (Jn.cons (Ev.fmtT (Ev.tyName (Ev.bc H bt_type (Evs.cons (Ev.loc H) Evs.nil) Kws.nil (Cl.typeOf (Tx := "int") (fun ρ g as s x I r => by cases r; rfl) (by decide +kernel))) H.O (by decide +kernel) (by decide +kernel) (name_int c.w) rfl (by decide +kernel) rfl) (by decide)) Jn.nil)) (by decide))) ?_
  exact Ex.exc (Ex1.raiseT H (Ev.loc H))
theorem f_decode_listT (vs : List V) (hv : (Cell.list vs).low 0 = true) : FunOk 152 4 false [.ref 0, .none] ["quote_checksum"] [.bool true] [.list vs] (.error 49) := by
  refine FunOk.of (ρ₀ := [("v", .ref 0), ("out_size", .none), ("quote_checksum", .bool true)]) (out := .exc true 49 [.list vs, tyTup]) (fun P => by k_is) (fun P => by k_is) (fun P s as₀ xs ys X r1 r2 => ?_) rfl (by simp only [List.map]; decide) rfl rfl rfl (by decide) rfl (fun c O hs hdd htn hk => ?_)
  · cases r1 with
    | cons ra r1 =>
    cases r1 with
    | cons rb r1 =>
    cases r1; cases r2 with
    | cons rc r2 =>
    cases r2
    exact ⟨_, BindsTo.of_eq rfl, .cons ra (.cons rb (.cons (rc.ext ⟨as₀, rfl⟩) .nil))⟩
  have H : Fn c _ _ _ _ := ⟨O, by rw [hs], hdd, hk, htn⟩
  refine Ex.exc (Ex1.ifF (Tst.of (Ev.bc H bt_isinstance (Evs.cons (Ev.loc H) (Evs.cons (Ev.bt H bt_str) Evs.nil)) Kws.nil (Cl.isi (Ans.listF (vs := vs) rfl (by decide +kernel) F.isi_meta_str (by rw [isSubtype_type]; kernel_rfl)))) Tru.bool)
    (Ex.exc (Ex1.ifT (Tst.not (b := false) (Tst.of (Ev.bc H bt_isinstance (Evs.cons (Ev.loc H) (Evs.cons (Ev.btys H) Evs.nil)) Kws.nil (Cl.isiT (Ts := ["bytes", "bytearray", "memoryview"]) (bs := [false, false, false]) rfl (fun ρ g as s x I r => (Ans.listT (vs := vs) rfl ρ g as s x I r).1)
      ⟨Ans.listF (vs := vs) rfl (by decide +kernel) F.isi_meta_bytes (by rw [isSubtype_type]; kernel_rfl), Ans.listF (vs := vs) rfl (by decide +kernel) F.isi_meta_bytearray (by rw [isSubtype_type]; kernel_rfl), Ans.listF (vs := vs) rfl (by decide +kernel) meta_mv (by rw [isSubtype_type]; kernel_rfl), trivial⟩ rfl)) Tru.bool)) ?_)))
  refine Ex.next (Ex1.set H (Ev.joined (Jn.cons (Ev.txt (n := 40) Ev.cstr (by decide)) (Jn.cons (Ev.fmtT (Ev.tyName (Ev.bc H bt_type (Evs.cons (Ev.loc H) Evs.nil) Kws.nil (Cl.typeOf (Tx := "list") (fun ρ g as s x I r => (Ans.listT (vs := vs) rfl ρ g as s x I r).1) (by decide +kernel))) H.O (by decide +kernel) (by decide +kernel) (name_list c.w) rfl (by decide +kernel) rfl) (by decide)) Jn.nil)) (by decide))) ?_
  exact Ex.exc (Ex1.raiseT H (Ev.loc H))
def outR (r : Except Nat V) : Out := match r with | .ok v => .ret v [] | .error C => .exc false C []
theorem outR_eq {r : Except Nat V} (h : ∀ v, r = .ok v → v.low 0 = true) : outOf (outR r) = some r := by
  cases r with
  | ok v => show (if v.low 0 = true then some (Except.ok v) else none) = _; rw [if_pos (h v rfl)]
  | error C => rfl
/-- decode, two arguments: as _decode does -/
theorem f_decode2 (x os : V) (r : Except Nat V) (hr : ∀ v, r = .ok v → v.low 0 = true) (hx : x.low 0 = true) (ho : os.low 0 = true) (h : FunOk 152 4 false [x, os] ["quote_checksum"] [.bool true] [] r) : FunOk 138 5 false [x, os] [] [] [] r := by
  refine FunOk.of (ρ₀ := [("v", x), ("out_size", os)]) (out := outR r) (fun P => by k_is) (fun P => by k_is) (fun P s as₀ xs ys X r1 r2 => ?_) rfl (by simp only [List.map]; decide) rfl rfl rfl (by decide) (outR_eq hr) (fun c O hs hdd htn hk => ?_)
  · cases r1 with
    | cons ra r1 =>
    cases r1 with
    | cons rb r1 =>
    cases r1; cases r2
    exact ⟨_, binds_K (K := hd.heap_39 P) X rfl (by k_is) rfl rfl rfl, .cons ra (.cons rb .nil)⟩
  have H : Fn c _ _ _ _ := ⟨O, by rw [hs], hdd, hk, htn⟩
  cases r with
  | ok v => exact Ex.ret (Ex1.ret (Ev.fc H gf_decode_ (Evs.cons (Ev.loc H) (Evs.cons (Ev.loc H) Evs.nil)) (Kws.cons Ev.cbool Kws.nil) (Cl.fun0 h H.O (by rw [H.hd]; decide) noTn (by simp [hx, ho]) rfl)))
  | error C => exact Ex.exc (Ex1.retX (Ev.fc H gf_decode_ (Evs.cons (Ev.loc H) (Evs.cons (Ev.loc H) Evs.nil)) (Kws.cons Ev.cbool Kws.nil) (Cl.fun0 h H.O (by rw [H.hd]; decide) noTn (by simp [hx, ho]) rfl)))
/-- decode, one argument -/
theorem f_decode1 (x : V) (r : Except Nat V) (hr : ∀ v, r = .ok v → v.low 0 = true) (hx : x.low 0 = true) (h : FunOk 152 4 false [x, .none] ["quote_checksum"] [.bool true] [] r) : FunOk 138 5 false [x] [] [] [] r := by
  refine FunOk.of (ρ₀ := [("v", x), ("out_size", .none)]) (out := outR r) (fun P => by k_is) (fun P => by k_is) (fun P s as₀ xs ys X r1 r2 => ?_) rfl (by simp only [List.map]; decide) rfl rfl rfl (by decide) (outR_eq hr) (fun c O hs hdd htn hk => ?_)
  · cases r1 with
    | cons ra r1 =>
    cases r1; cases r2
    exact ⟨_, binds_K (K := hd.heap_39 P) X rfl (by k_is) rfl rfl rfl, .cons ra (.cons .none .nil)⟩
  have H : Fn c _ _ _ _ := ⟨O, by rw [hs], hdd, hk, htn⟩
  cases r with
  | ok v => exact Ex.ret (Ex1.ret (Ev.fc H gf_decode_ (Evs.cons (Ev.loc H) (Evs.cons (Ev.loc H) Evs.nil)) (Kws.cons Ev.cbool Kws.nil) (Cl.fun0 h H.O (by rw [H.hd]; decide) noTn (by simp [hx]; rfl) rfl)))
  | error C => exact Ex.exc (Ex1.retX (Ev.fc H gf_decode_ (Evs.cons (Ev.loc H) (Evs.cons (Ev.loc H) Evs.nil)) (Kws.cons Ev.cbool Kws.nil) (Cl.fun0 h H.O (by rw [H.hd]; decide) noTn (by simp [hx]; rfl) rfl)))
theorem f_decodeL (vs : List V) (hv : (Cell.list vs).low 0 = true) : FunOk 138 5 false [.ref 0, .none] [] [] [.list vs] (.error 49) := by
  refine FunOk.of (ρ₀ := [("v", .ref 0), ("out_size", .none)]) (out := .exc false 49 [.list vs]) (fun P => by k_is) (fun P => by k_is) (fun P s as₀ xs ys X r1 r2 => ?_) rfl (by simp only [List.map]; decide) rfl rfl rfl (by decide) rfl (fun c O hs hdd htn hk => ?_)
  · cases r1 with
    | cons ra r1 =>
    cases r1 with
    | cons rb r1 =>
    cases r1; cases r2
    exact ⟨_, binds_K (K := hd.heap_39 P) X rfl (by k_is) rfl rfl rfl, .cons ra (.cons rb .nil)⟩
  have H : Fn c _ _ _ _ := ⟨O, by rw [hs], hdd, hk, htn⟩
  exact Ex.exc (Ex1.retX (Ev.fc H gf_decode_ (Evs.cons (Ev.loc H) (Evs.cons (Ev.loc H) Evs.nil)) (Kws.cons Ev.cbool Kws.nil) (Cl.fun1 (i := 0) (f_decode_listT vs hv) H.O (by rw [H.hd]; decide) noTn rfl hv rfl rfl rfl)))
theorem szRes_low {v : List UInt8} {os : V} : ∀ u, decRes v os = .ok u → u.low 0 = true := fun u h => by
  unfold decRes at h
  split at h
  · cases h
  · unfold szRes at h
    split at h
    · cases h; rfl
    · split at h <;> cases h
      rfl
    · cases h
end Mine

/-! P14 -/
namespace Mine
def sgnZ (l : List Nat) : List Int := l.map fun d => ((alpha.getD d 0).toNat : Int)
theorem valB_strip (v : List UInt8) : valB (strip0 v) = valB v := by
  unfold strip0 lstripB
  induction v with
  | nil => rfl
  | cons x r ih =>
    rw [List.dropWhile_cons]
    by_cases h : ([0] : List UInt8).contains x = true
    · rw [if_pos h, ih, valB_cons]
      have : x = 0 := by simpa using h
      subst this
      simp
    · rw [if_neg h]
theorem encB_eq (v : List UInt8) : encB v = List.replicate (v.length - (strip0 v).length) 49 ++ b58L (valB v) := by
  unfold encB
  rw [valB_strip]
theorem gt0T {a : Nat} (h : a ≠ 0) : decide ((a : Int) > 0) = true := decide_eq_true (by omega)
theorem gt0F {a : Nat} (h : a = 0) : decide ((a : Int) > 0) = false := decide_eq_false (by omega)
theorem alpha_length : alpha.length = 58 := by decide
theorem f_law_written (v : List UInt8) (hz : v.length ≤ 500) : FunOk 159 0 false [.bytes v] [] [] [] (.ok (.bytes (encB v))) := by
  obtain ⟨I, hI⟩ : ∃ I, I = valB v := ⟨_, rfl⟩
  obtain ⟨n, hn1, hn2⟩ := exists_digs I
  have hL : LE58 I = digsN I n := LE58_digs n I hn1 hn2
  have hln : n ≤ 1000 := by
    have h1 := LE58_len (2 * v.length) I (by rw [hI]; exact valB_58 v)
    rw [hL, digsN_len] at h1
    omega
  let S : Nat → List Cell := fun k => [.list ((sgnZ (digsN I k)).map V.int)]
  let R : Nat → Loc := fun k => [("octets", .bytes v), ("number", .int (I / 58 ^ k : Nat)), ("found", .ref 0)]
  have hsl := strip0_le v
  refine FunOk.of (ρ₀ := [("octets", .bytes v)]) (out := .ret (.bytes (encB v)) [.list ((sgnZ (digsN I n)).map V.int), .list ((sgnZ (digsN I n)).reverse.map V.int)]) (fun P => by k_is) (fun P => by k_is) (fun P s as₀ xs ys X r1 r2 => ?_) rfl (by simp only [List.map]; decide) rfl rfl rfl (by decide) rfl (fun c O hs hdd htn hk => ?_)
  · cases r1 with
    | cons ra r1 =>
    cases r1; cases r2
    exact ⟨_, BindsTo.of_eq rfl, .cons ra .nil⟩
  have H : Fn c _ _ _ _ := ⟨O, by rw [hs], hdd, hk, htn⟩
  refine Ex.next (Ex1.setD (v := .int (I / 58 ^ 0 : Nat)) (σ₁ := []) (tl := [_]) H (Ev.eq (Ev.tc H bt_int (MethT.from_bytes H.O) (Evs.cons (Ev.loc H) (Evs.cons Ev.cstr Evs.nil)) Kws.nil rfl (ClB.from_bytes (by omega))) (by rw [hI]; simp)) (by decide) rfl rfl) ?_
  refine Ex.next (Ex1.set H (Ev.list Evs.nil (by decide))) ?_
  refine Ex.next (ρ' := R n) (σ₁ := S n) (Ex1.while_ n R S rfl rfl (fun k hk => ⟨S k, ?_, ?_⟩) ?_) ?_
  · exact Tst.cmp (Ev.loc H) Ev.cint (Op2.gt' (gt0T (hn1 k hk)))
  · have hm : I / 58 ^ k % 58 < 58 := Nat.mod_lt _ (by decide)
    have eS : S (k + 1) = (S k).set 0 (.list ((sgnZ (digsN I k)).map V.int ++ [V.int ((alpha.getD (I / 58 ^ k % 58) 0).toNat : Int)])) := by
      show [_] = [_]
      rw [digsN_succ]
      simp [sgnZ]
    refine Ex.next (Ex1.expr (v := .none) (σ₁ := S (k + 1)) ?_ rfl H.O) ?_
    · rw [eS]
      exact Ev.meth H.O (Ev.loc H) (Meth.lappend (vs := (sgnZ (digsN I k)).map V.int) rfl) (Evs.cons (Ev.itemB (i := ((I / 58 ^ k % 58 : Nat) : Int)) (Ev.con H gc_signs) (Ev.bin (Ev.loc H) Ev.cint (Op2.fmodN (b := 58) (by decide))) (by decide) (by omega) (by rw [alpha_length]; omega)) Evs.nil) Kws.nil (Cl.lappend rfl (by rw [H.hk]; exact Nat.zero_le _) (by simp [sgnZ, digsN]; omega))
    · refine Ex.next (Ex1.set (v := .int (I / 58 ^ (k + 1) : Nat)) H (Ev.eq (Ev.bin (Ev.loc H) Ev.cint (Op2.fdivN (b := 58) (by decide) (by decide))) (by rw [div_step]))) Ex.nil
  · exact Tst.cmp (Ev.loc H) Ev.cint (Op2.gt' (gt0F hn2))
  refine Ex.next (Ex1.set (v := .int ((v.length - (strip0 v).length : Nat) : Int)) H (Ev.eq (Ev.bin (Ev.bc H bt_len (Evs.cons (Ev.loc H) Evs.nil) Kws.nil (Cl.lenB (by omega))) (Ev.bc H bt_len (Evs.cons (Ev.meth H.O (Ev.loc H) Meth.lstrip (Evs.cons Ev.cbytes Evs.nil) Kws.nil (Cl.lstrip (by omega))) Evs.nil) Kws.nil (Cl.lenB (b := strip0 v) (by omega))) Op2.sub) (by congr 1; omega))) ?_
  have hb : ∀ (l : List Nat), (sgnZ l).map (fun n => n.toNat.toUInt8) = l.map fun d => alpha.getD d 0 := fun l => by
    unfold sgnZ
    rw [List.map_map]
    apply List.map_congr_left
    intro d _
    simp
  have hr : ∀ x ∈ (sgnZ (digsN I n)).reverse, 0 ≤ x ∧ x < 256 := fun x hx => by
    have hx := List.mem_reverse.mp hx
    unfold sgnZ at hx
    obtain ⟨d, _, rfl⟩ := List.mem_map.mp hx
    have := (alpha.getD d 0).toNat_lt
    omega
  have hfin : (sgnZ (digsN I n)).reverse.map (fun n => n.toNat.toUInt8) = b58L I := by
    unfold b58L
    rw [hL, List.map_reverse, hb, List.map_reverse]
  have hbl : (b58L I).length ≤ 1000 := by rw [b58L_len, hL, digsN_len]; exact hln
  refine Ex.ret (Ex1.ret (Ev.eq (Ev.bin (v := .bytes (List.replicate (v.length - (strip0 v).length) 49)) (u := .bytes (b58L I)) (Ev.bin Ev.cbytes (Ev.loc H) (Op2.mulB1 (n := ((v.length - (strip0 v).length : Nat) : Int)) (by omega) (by omega))) (Ev.bc H bt_bytes (Evs.cons (Ev.eq (Ev.revL (σ₁ := [.list ((sgnZ (digsN I n)).map V.int)]) (vs := (sgnZ (digsN I n)).map V.int) (Ev.loc H) (LS.cell rfl) (by simp [sgnZ, digsN]; omega) rfl) rfl) Evs.nil) Kws.nil ?_) (Op2.addB (by rw [List.length_replicate]; omega))) ?_))
  · rw [← List.map_reverse, ← hfin]
    exact Cl.bytesL rfl hr (by simp [sgnZ, digsN]; omega) H.O
  · rw [encB_eq, ← hI]
end Mine

/-! P15 -/
namespace Mine
def toldV : Option (List UInt8) → V
  | none => .none
  | some p => .bytes p
def toldR : Option (List UInt8) → Except Nat V
  | none => .error 37
  | some p => .ok (.bytes p)
theorem toldR_low (t : Option (List UInt8)) : ∀ v, toldR t = .ok v → v.low 0 = true := fun v h => by
  cases t <;> cases h
  rfl
theorem f_law_told (x : V) (t : Option (List UInt8)) (hx : x.low 0 = true) (h : FunOk 138 5 false [x] [] [] [] (toldR t)) : FunOk 173 6 true [x] [] [] [] (.ok (toldV t)) := by
  refine FunOk.of (ρ₀ := [("text", x)]) (out := .ret (toldV t) []) (fun P => by k_is) (fun P => by k_is) (fun P s as₀ xs ys X r1 r2 => ?_) rfl (by simp only [List.map]; decide) rfl rfl rfl (by decide) (by cases t <;> rfl) (fun c O hs hdd htn hk => ?_)
  · cases r1 with
    | cons ra r1 =>
    cases r1; cases r2
    exact ⟨_, BindsTo.of_eq rfl, .cons ra .nil⟩
  have H : Fn c _ _ _ _ := ⟨O, by rw [hs], hdd, hk, htn⟩
  cases t with
  | some p => exact Ex.ret (Ex1.tryRet (Ex.ret (Ex1.ret (Ev.fc H gf_decode (Evs.cons (Ev.loc H) Evs.nil) Kws.nil (Cl.fun0 h H.O (by rw [H.hd]; decide) noTn (by simp [hx]) rfl)))))
  | none => exact Ex.ret (Ex1.tryCaught (cst := .none) H.O htn (Ex.exc (Ex1.retX (Ev.fc H gf_decode (Evs.cons (Ev.loc H) Evs.nil) Kws.nil (Cl.fun0 h H.O (by rw [H.hd]; decide) noTn (by simp [hx]) rfl)))) (by k_is) (by kts_isx) (by rw [H.hs]; rfl) (.inl rfl))
theorem f_law_refused_int (b : List UInt8) (n : Nat) (h : FunOk 116 4 false [.bytes b, .int n] [] [] [] (.error 37)) : FunOk 180 5 true [.bytes b, .int n] [] [] [] (.ok (.bool true)) := by
  refine FunOk.of (ρ₀ := [("payload", .bytes b), ("sizes", .int n)]) (out := .ret (.bool true) []) (fun P => by k_is) (fun P => by k_is) (fun P s as₀ xs ys X r1 r2 => ?_) rfl (by simp only [List.map]; decide) rfl rfl rfl (by decide) rfl (fun c O hs hdd htn hk => ?_)
  · cases r1 with
    | cons ra r1 =>
    cases r1 with
    | cons rb r1 =>
    cases r1; cases r2
    exact ⟨_, BindsTo.of_eq rfl, .cons ra (.cons rb .nil)⟩
  have H : Fn c _ _ _ _ := ⟨O, by rw [hs], hdd, hk, htn⟩
  exact Ex.ret (Ex1.tryCaught (cst := .bool true) H.O htn (Ex.exc (Ex1.exprX (Ev.fc H gf_encode (Evs.cons (Ev.loc H) (Evs.cons (Ev.loc H) Evs.nil)) Kws.nil (Cl.fun0 h H.O (by rw [H.hd]; decide) noTn rfl rfl)) H.O)) (by k_is) (by kts_isx) (by rw [H.hs]; rfl) (.inr ⟨_, rfl⟩))
end Mine

/-! P16 -/
namespace Mine
theorem f_law_refused_list (b : List UInt8) (vs : List V) (hv : (Cell.list vs).low 0 = true) (h : FunOk 116 4 false [.bytes b, .ref 0] [] [] [.list vs] (.error 37)) : FunOk 180 5 true [.bytes b, .ref 0] [] [] [.list vs] (.ok (.bool true)) := by
  refine FunOk.of (ρ₀ := [("payload", .bytes b), ("sizes", .ref 0)]) (out := .ret (.bool true) [.list vs]) (fun P => by k_is) (fun P => by k_is) (fun P s as₀ xs ys X r1 r2 => ?_) rfl (by simp only [List.map]; decide) rfl rfl rfl (by decide) rfl (fun c O hs hdd htn hk => ?_)
  · cases r1 with
    | cons ra r1 =>
    cases r1 with
    | cons rb r1 =>
    cases r1; cases r2
    exact ⟨_, BindsTo.of_eq rfl, .cons ra (.cons rb .nil)⟩
  have H : Fn c _ _ _ _ := ⟨O, by rw [hs], hdd, hk, htn⟩
  exact Ex.ret (Ex1.tryCaught (cst := .bool true) H.O htn (Ex.exc (Ex1.exprX (Ev.fc H gf_encode (Evs.cons (Ev.loc H) (Evs.cons (Ev.loc H) Evs.nil)) Kws.nil (Cl.fun1 (i := 0) h H.O (by rw [H.hd]; decide) noTn rfl hv rfl rfl rfl)) H.O)) (by k_is) (by kts_isx) (by rw [H.hs]; rfl) (.inr ⟨_, rfl⟩))
theorem f_law_is_kind (x os : V) (hx : x.low 0 = true) (ho : os.low 0 = true) (h : FunOk 138 5 false [x, os] [] [] [] (.error 49)) : FunOk 187 6 true [x, os] [] [] [] (.ok (.bool true)) := by
  refine FunOk.of (ρ₀ := [("text", x), ("sizes", os)]) (out := .ret (.bool true) []) (fun P => by k_is) (fun P => by k_is) (fun P s as₀ xs ys X r1 r2 => ?_) rfl (by simp only [List.map]; decide) rfl rfl rfl (by decide) rfl (fun c O hs hdd htn hk => ?_)
  · cases r1 with
    | cons ra r1 =>
    cases r1 with
    | cons rb r1 =>
    cases r1; cases r2
    exact ⟨_, BindsTo.of_eq rfl, .cons ra (.cons rb .nil)⟩
  have H : Fn c _ _ _ _ := ⟨O, by rw [hs], hdd, hk, htn⟩
  exact Ex.ret (Ex1.tryCaught (cst := .bool true) H.O htn (Ex.exc (Ex1.exprX (Ev.fc H gf_decode (Evs.cons (Ev.loc H) (Evs.cons (Ev.loc H) Evs.nil)) Kws.nil (Cl.fun0 h H.O (by rw [H.hd]; decide) noTn (by simp [hx, ho]) rfl)) H.O)) (by k_is) (by kts_isx) (by rw [H.hs]; rfl) (.inr ⟨_, rfl⟩))
theorem f_law_is_kindL (vs : List V) (hv : (Cell.list vs).low 0 = true) (h : FunOk 138 5 false [.ref 0, .none] [] [] [.list vs] (.error 49)) : FunOk 187 6 true [.ref 0, .none] [] [] [.list vs] (.ok (.bool true)) := by
  refine FunOk.of (ρ₀ := [("text", .ref 0), ("sizes", .none)]) (out := .ret (.bool true) [.list vs]) (fun P => by k_is) (fun P => by k_is) (fun P s as₀ xs ys X r1 r2 => ?_) rfl (by simp only [List.map]; decide) rfl rfl rfl (by decide) rfl (fun c O hs hdd htn hk => ?_)
  · cases r1 with
    | cons ra r1 =>
    cases r1 with
    | cons rb r1 =>
    cases r1; cases r2
    exact ⟨_, BindsTo.of_eq rfl, .cons ra (.cons rb .nil)⟩
  have H : Fn c _ _ _ _ := ⟨O, by rw [hs], hdd, hk, htn⟩
  exact Ex.ret (Ex1.tryCaught (cst := .bool true) H.O htn (Ex.exc (Ex1.exprX (Ev.fc H gf_decode (Evs.cons (Ev.loc H) (Evs.cons (Ev.loc H) Evs.nil)) Kws.nil (Cl.fun1 (i := 0) h H.O (by rw [H.hd]; decide) noTn rfl hv rfl rfl rfl)) H.O)) (by k_is) (by kts_isx) (by rw [H.hs]; rfl) (.inr ⟨_, rfl⟩))
end Mine

/-! P17 -/
namespace Mine
def is1 (x : UInt8) : Bool := x == 49
def oneN (l : List UInt8) : Nat := l.length - (strip1 l).length
theorem strip1_eq (l : List UInt8) : strip1 l = l.dropWhile is1 := by
  unfold strip1 lstripB
  congr 1
  funext c
  cases h : is1 c <;> simp [is1] at h <;> simp [h]
theorem drop_snoc (l : List UInt8) (x : UInt8) : (l ++ [x]).dropWhile is1 = if l.all is1 then (if is1 x then [] else [x]) else l.dropWhile is1 ++ [x] := by
  induction l with
  | nil => simp [List.dropWhile_cons]
  | cons y r ih =>
    rw [List.cons_append, List.dropWhile_cons, List.dropWhile_cons, List.all_cons]
    cases h : is1 y with
    | true => simp [ih]
    | false => simp
theorem drop_all {l : List UInt8} (h : l.all is1 = true) : l.dropWhile is1 = [] := by
  induction l with
  | nil => rfl
  | cons y r ih =>
    rw [List.all_cons, Bool.and_eq_true] at h
    rw [List.dropWhile_cons, if_pos h.1, ih h.2]
theorem oneN_snoc (l : List UInt8) (x : UInt8) : oneN (l ++ [x]) = oneN l + if (l.all is1 && is1 x) then 1 else 0 := by
  have hle := strip1_le l
  unfold oneN
  rw [strip1_eq, strip1_eq, drop_snoc]
  rw [strip1_eq] at hle
  cases h : l.all is1 with
  | true =>
    rw [drop_all h]
    cases h2 : is1 x <;> simp
  | false =>
    simp
    try omega
theorem all_snoc (l : List UInt8) (x : UInt8) : (l ++ [x]).all is1 = (l.all is1 && is1 x) := by simp
theorem trB_app (t l r : List UInt8) : trB t (l ++ r) = trB t l ++ trB t r := by simp [trB]
theorem trB_strip (v : List UInt8) : hor (trB digT (strip1 v)) = hor (trB digT v) := by
  rw [strip1_eq]
  induction v with
  | nil => rfl
  | cons x r ih =>
    rw [List.dropWhile_cons]
    cases h : is1 x with
    | false => simp
    | true =>
      have : x = 49 := by simpa [is1] using h
      subst this
      rw [if_pos rfl, ih]
      show _ = hor ([digT.getD 49 49] ++ trB digT r)
      have e : digT.getD 49 49 = 0 := by decide +kernel
      rw [e, hor_app]
      simp [hor]
theorem decB_read (v : List UInt8) : decB v = List.replicate (oneN v) 0 ++ beB (nby (hor (trB digT v))) (hor (trB digT v)) := by
  unfold decB decI
  rw [trB_strip]
  show List.replicate (oneN v) 0 ++ _ = _
  split
  · next h =>
    have h1 : strip1 v = [] := List.length_eq_zero_iff.mp h
    have h2 := trB_strip v
    rw [h1] at h2
    rw [← h2]
    rfl
  · rfl
theorem digT_sign : ∀ n, n < 58 → digT.getD (alpha.getD n 0).toNat (alpha.getD n 0) = UInt8.ofNat n := by decide +kernel
theorem find_alpha : ∀ n : Nat, n < 256 → alpha.contains (UInt8.ofNat n) = true → alpha.findIdx? (· == UInt8.ofNat n) = some (digT.getD n (UInt8.ofNat n)).toNat := by decide +kernel
theorem index_alpha {x : UInt8} (h : alpha.contains x = true) : alpha.findIdx? (· == x) = some (digT.getD x.toNat x).toNat := by
  have := find_alpha x.toNat x.toNat_lt (by simpa using h)
  simpa using this
theorem okB_iff (v : List UInt8) : okB v = true ↔ ∀ x ∈ v, alpha.contains x = true := by
  unfold okB delB
  rw [List.isEmpty_iff, List.filter_eq_nil_iff]
  simp
section
variable {c : Cx} {ρ ρ' : Loc} {σ σ₁ σ₂ σ₃ σ₄ : List Cell} {o : Res} {nm : Names} {d k : Nat} {tn : Bool}
theorem Ex1.forRetB {y : PySem.Str} {px pos : Pos} {iter : PySem.Expr} {body : List Stmt} {b : List UInt8} {u : V} {n : Nat} {x : UInt8} (R : Nat → Loc) (F : Fn c nm d k tn) (h0 : R 0 = ρ) (he : Ev c ρ σ iter (.val (.bytes b) σ)) (hk : k ≤ σ.length) (hn : b[n]? = some x)
    (hb : ∀ p v, p < n → b[p]? = some v → Ex c (setL y (.int v.toNat) (R p)) (σ ++ [.itB b (p + 1)]) body (.next (R (p + 1)) (σ ++ [.itB b (p + 1)])))
    (hf : Ex c (setL y (.int x.toNat) (R n)) (σ ++ [.itB b (n + 1)]) body (.ret u σ₂)) (hl : nm.lookup y = some .local := by rfl)
    (hs : ∀ x, foldedSetIterable iter c.env x = pure x := by intro _; rfl) :
    Ex1 c ρ σ (.For (.Name y px) iter body [] pos) (.ret u σ₂) := by
  have nx : ∀ p v, b[p]? = some v → Nx c (σ ++ [.itB b p]) σ.length (.int (b.getD p 0).toNat) (σ ++ [.itB b (p + 1)]) := fun p v hv => by
    have hv' : b.getD p 0 = v := by rw [List.getD_eq_getElem?_getD, hv]; rfl
    have := Nx.bytes (c := c) (σ := σ ++ [.itB b p]) (j := σ.length) (i := p) (b := b) (ch := v) (by simp) (by rw [F.hk]; exact hk) hv
    rw [hv']
    simpa using this
  have hnl : n < b.length := by
    rcases Nat.lt_or_ge n b.length with h | h
    · exact h
    · rw [List.getElem?_eq_none h] at hn; cases hn
  refine Ex1.forRet (v := .bytes b) n R (fun _ => σ) (fun p => .itB b p) (fun p => .int (b.getD p 0).toNat) F.O (by rw [F.hs]; exact hl) h0 he Itr.bytes (fun p hp => ⟨?_, ?_⟩) ⟨nx n x hn, ?_⟩ hs
  · exact nx p b[p] (List.getElem?_eq_getElem (by omega))
  · have hv : b[p]? = some (b.getD p 0) := by rw [List.getD_eq_getElem?_getD, List.getElem?_eq_getElem (by omega : p < b.length)]; rfl
    exact hb p _ hp hv
  · have : b.getD n 0 = x := by rw [List.getD_eq_getElem?_getD, hn]; rfl
    rw [this]
    exact hf
end
def rdL (v : List UInt8) (p : Nat) : Loc := [("text", .bytes v), ("number", .int (hor (trB digT (v.take p)) : Nat)), ("ones", .int (oneN (v.take p) : Nat)), ("ahead", .bool ((v.take p).all is1))]
def rdR (v : List UInt8) : Nat → Loc
  | 0 => rdL v 0
  | p + 1 => [("text", .bytes v), ("number", .int (hor (trB digT (v.take (p + 1))) : Nat)), ("ones", .int (oneN (v.take (p + 1)) : Nat)), ("ahead", .bool ((v.take (p + 1)).all is1)), ("sign", .int (v.getD p 0).toNat)]
theorem exists_bad : ∀ (v : List UInt8), okB v = false → ∃ (n : Nat) (x : UInt8), v[n]? = some x ∧ alpha.contains x = false ∧ ∀ (p : Nat) (y : UInt8), p < n → v[p]? = some y → alpha.contains y = true
  | [], h => by cases h
  | x :: r, h => by
    cases hx : alpha.contains x with
    | false => exact ⟨0, x, rfl, hx, fun p y hp => by omega⟩
    | true =>
      have hr : okB r = false := by
        cases e : okB r with
        | false => rfl
        | true =>
          have := (okB_iff (x :: r)).mpr (fun z hz => by
            rcases List.mem_cons.mp hz with rfl | hz
            · exact hx
            · exact (okB_iff r).mp e z hz)
          rw [h] at this
          cases this
      obtain ⟨n, z, h1, h2, h3⟩ := exists_bad r hr
      refine ⟨n + 1, z, h1, h2, fun p y hp hy => ?_⟩
      cases p with
      | zero => simp at hy; subst hy; exact hx
      | succ p => exact h3 p y (by omega) hy
end Mine

/-! P18 -/
namespace Mine
theorem setR (v : List UInt8) (p : Nat) (z : V) : setL "sign" z (rdR v p) = ([("text", .bytes v), ("number", .int (hor (trB digT (v.take p)) : Nat)), ("ones", .int (oneN (v.take p) : Nat)), ("ahead", .bool ((v.take p).all is1)), ("sign", z)] : Loc) := by cases p <;> rfl
theorem f_law_read_long (v : List UInt8) (hz : v.length ≤ 1000) (hl : 112 < v.length) : FunOk 166 4 false [.bytes v] [] [] [] (.ok .none) := by
  refine FunOk.of (ρ₀ := [("text", .bytes v)]) (out := .ret .none []) (fun P => by k_is) (fun P => by k_is) (fun P s as₀ xs ys X r1 r2 => ?_) rfl (by simp only [List.map]; decide) rfl rfl rfl (by decide) rfl (fun c O hs hdd htn hk => ?_)
  · cases r1 with
    | cons ra r1 =>
    cases r1; cases r2
    exact ⟨_, BindsTo.of_eq rfl, .cons ra .nil⟩
  have H : Fn c _ _ _ _ := ⟨O, by rw [hs], hdd, hk, htn⟩
  exact Ex.ret (Ex1.ifT (Tst.cmp (Ev.bc H bt_len (Evs.cons (Ev.loc H) Evs.nil) Kws.nil (Cl.lenB (by omega))) Ev.cint (Op2.gt' (decide_eq_true (by omega)))) (Ex.ret (Ex1.ret Ev.cnone)))
theorem f_law_read_bad (v : List UInt8) (hz : v.length ≤ 112) (hx : okB v = false) : FunOk 166 4 false [.bytes v] [] [] [] (.ok .none) := by
  obtain ⟨n, y, hn, hy, hbef⟩ := exists_bad v hx
  refine FunOk.of (ρ₀ := [("text", .bytes v)]) (out := .ret .none [.itB v (n + 1)]) (fun P => by k_is) (fun P => by k_is) (fun P s as₀ xs ys X r1 r2 => ?_) rfl (by simp only [List.map]; decide) rfl rfl rfl (by decide) rfl (fun c O hs hdd htn hk => ?_)
  · cases r1 with
    | cons ra r1 =>
    cases r1; cases r2
    exact ⟨_, BindsTo.of_eq rfl, .cons ra .nil⟩
  have H : Fn c _ _ _ _ := ⟨O, by rw [hs], hdd, hk, htn⟩
  refine Ex.next (Ex1.ifF (Tst.cmp (Ev.bc H bt_len (Evs.cons (Ev.loc H) Evs.nil) Kws.nil (Cl.lenB (by omega))) Ev.cint (Op2.gt' (decide_eq_false (by omega)))) Ex.nil) ?_
  refine Ex.next (ρ' := rdL v 0) (σ₁ := []) (Ex1.drop (tl := [.tuple [.int 0, .int 0, .bool true]]) (Ex1.assign3 H.O (Ev.tuple (Evs.cons Ev.cint (Evs.cons Ev.cint (Evs.cons Ev.cbool Evs.nil))) (by decide)) rfl (by rw [H.hs]; rfl) (by rw [H.hs]; rfl) (by rw [H.hs]; rfl) rfl (by show swappedStores _ _ (envOf c.qual c.scope c.L c.f c.cd) = _; rw [hs]; with_unfolding_all rfl)) (by decide) rfl rfl) ?_
  refine Ex.ret (Ex1.forRetB (σ := []) (b := v) (n := n) (x := y) (rdR v) H rfl (Ev.loc H) (by rw [← H.hk, hk]; exact Nat.zero_le _) hn (fun p x hpn hv => ?_) ?_)
  · have hca := hbef p x hpn hv
    have hx' : v.getD p 0 = x := by rw [List.getD_eq_getElem?_getD, hv]; rfl
    have ht : v.take (p + 1) = v.take p ++ [x] := by rw [List.take_add_one, hv]; rfl
    have hp : p < v.length := by
      rcases Nat.lt_or_ge p v.length with h | h
      · exact h
      · rw [List.getElem?_eq_none h] at hv; cases hv
    have hxx : ((x.toNat : Int)).toNat.toUInt8 = x := by simp
    have hxl := x.toNat_lt
    rw [setR]
    refine Ex.next (Ex1.ifF (Tst.cmp (Ev.loc H) (Ev.con H gc_signs) (Op2.notInB (by omega) (by omega) (by rw [hxx, hca]; rfl))) Ex.nil) ?_
    refine Ex.next (ρ' := [("text", .bytes v), ("number", .int (hor (trB digT (v.take p)) : Nat)), ("ones", .int (oneN (v.take p) : Nat)), ("ahead", .bool ((v.take (p + 1)).all is1)), ("sign", .int x.toNat)]) (σ₁ := [.itB v (p + 1)]) (Ex1.set (v := .bool ((v.take (p + 1)).all is1)) H ?_) ?_
    · rw [ht, all_snoc]
      cases ha : (v.take p).all is1 with
      | false => exact Ev.andF (Ev.loc H) Tru.bool
      | true => exact Ev.andT (Ev.loc H) Tru.bool (Ev.cmp (Ev.loc H) Ev.cint (Op2.eqI' (by
          show ((x.toNat : Int) == 49) = is1 x
          unfold is1
          rw [Bool.eq_iff_iff]
          simp only [beq_iff_eq]
          constructor
          · intro h; exact UInt8.toNat_inj.mp (by show x.toNat = 49; omega)
          · rintro rfl; rfl)))
    refine Ex.next (σ₁ := [.itB v (p + 1)]) (Ex1.set (v := .int (oneN (v.take (p + 1)) : Nat)) H ?_) ?_
    · have e1 : oneN (v.take (p + 1)) = oneN (v.take p) + if (v.take (p + 1)).all is1 then 1 else 0 := by
        rw [ht, oneN_snoc, all_snoc]
      rw [e1]
      cases ha : (v.take (p + 1)).all is1 with
      | false => exact Ev.bin (Ev.loc H) (Ev.ifF (Tst.of (Ev.loc H) Tru.bool) Ev.cint) (Op2.addN (b := 0))
      | true => exact Ev.bin (Ev.loc H) (Ev.ifT (Tst.of (Ev.loc H) Tru.bool) Ev.cint) (Op2.addN (b := 1))
    have e2 : hor (trB digT (v.take (p + 1))) = hor (trB digT (v.take p)) * 58 + (digT.getD x.toNat x).toNat := by
      rw [ht, trB_app]
      exact hor_snoc _ _
    show Ex c _ _ _ (.next [("text", .bytes v), ("number", .int (hor (trB digT (v.take (p + 1))) : Nat)), ("ones", .int (oneN (v.take (p + 1)) : Nat)), ("ahead", .bool ((v.take (p + 1)).all is1)), ("sign", .int (v.getD p 0).toNat)] _)
    rw [hx', e2]
    refine Ex.next (Ex1.set H (Ev.bin (Ev.bin (Ev.loc H) Ev.cint (Op2.mulN (b := 58) (n := 8 * p) (m := 6) (Nat.lt_of_lt_of_le (hor_lt _) (Nat.pow_le_pow_right (by decide) (by rw [trB_length, List.length_take]; omega))) (by decide) (by omega))) (Ev.meth H.O (Ev.con H gc_signs) Meth.index (Evs.cons (Ev.loc H) Evs.nil) Kws.nil (Cl.index (by omega) (by omega) (by decide) (by rw [hxx]; exact index_alpha hca))) Op2.addN)) Ex.nil
  · have hyy : ((y.toNat : Int)).toNat.toUInt8 = y := by simp
    have hyl := y.toNat_lt
    rw [setR]
    exact Ex.ret (Ex1.ifT (Tst.cmp (Ev.loc H) (Ev.con H gc_signs) (Op2.notInB (by omega) (by omega) (by rw [hyy, hy]; rfl))) (Ex.ret (Ex1.ret Ev.cnone)))
end Mine

/-! P19 -/
namespace Mine
theorem tell_ok {v : List UInt8} (hz : v.length ≤ 112) (hx : okB v = true) : tell v = if (decB v).length < 4 then none else if tailB v = chkB (bodyB v) then some (bodyB v) else none := by
  unfold tell
  rw [if_neg (by omega), if_neg (by rw [hx]; decide)]
theorem f_law_read_ok (v : List UInt8) (hz : v.length ≤ 112) (hx : okB v = true) : FunOk 166 4 false [.bytes v] [] [] [] (.ok (toldV (tell v))) := by
  refine FunOk.of (ρ₀ := [("text", .bytes v)]) (out := .ret (toldV (tell v)) []) (fun P => by k_is) (fun P => by k_is) (fun P s as₀ xs ys X r1 r2 => ?_) rfl (by simp only [List.map]; decide) rfl rfl rfl (by decide) (by cases tell v <;> rfl) (fun c O hs hdd htn hk => ?_)
  · cases r1 with
    | cons ra r1 =>
    cases r1; cases r2
    exact ⟨_, BindsTo.of_eq rfl, .cons ra .nil⟩
  have H : Fn c _ _ _ _ := ⟨O, by rw [hs], hdd, hk, htn⟩
  refine Ex.next (Ex1.ifF (Tst.cmp (Ev.bc H bt_len (Evs.cons (Ev.loc H) Evs.nil) Kws.nil (Cl.lenB (by omega))) Ev.cint (Op2.gt' (decide_eq_false (by omega)))) Ex.nil) ?_
  refine Ex.next (ρ' := rdL v 0) (σ₁ := []) (Ex1.drop (tl := [.tuple [.int 0, .int 0, .bool true]]) (Ex1.assign3 H.O (Ev.tuple (Evs.cons Ev.cint (Evs.cons Ev.cint (Evs.cons Ev.cbool Evs.nil))) (by decide)) rfl (by rw [H.hs]; rfl) (by rw [H.hs]; rfl) (by rw [H.hs]; rfl) rfl (by show swappedStores _ _ (envOf c.qual c.scope c.L c.f c.cd) = _; rw [hs]; with_unfolding_all rfl)) (by decide) rfl rfl) ?_
  have hlow : (rdR v v.length).all (fun p => p.2.low (List.length ([] : List Cell))) = true := by cases v.length <;> rfl
  refine Ex.next (ρ' := rdR v v.length) (σ₁ := []) (Ex1.forB (σ := []) (b := v) (rdR v) H rfl (Ev.loc H) (by rw [← H.hk, hk]; exact Nat.zero_le _) (fun p x hv => ?_) hlow rfl) ?_
  · have hca : alpha.contains x = true := (okB_iff v).mp hx x (List.mem_of_getElem? hv)
    have hx' : v.getD p 0 = x := by rw [List.getD_eq_getElem?_getD, hv]; rfl
    have ht : v.take (p + 1) = v.take p ++ [x] := by rw [List.take_add_one, hv]; rfl
    have hp : p < v.length := by
      rcases Nat.lt_or_ge p v.length with h | h
      · exact h
      · rw [List.getElem?_eq_none h] at hv; cases hv
    have hxx : ((x.toNat : Int)).toNat.toUInt8 = x := by simp
    have hxl := x.toNat_lt
    rw [setR]
    refine Ex.next (Ex1.ifF (Tst.cmp (Ev.loc H) (Ev.con H gc_signs) (Op2.notInB (by omega) (by omega) (by rw [hxx, hca]; rfl))) Ex.nil) ?_
    refine Ex.next (ρ' := [("text", .bytes v), ("number", .int (hor (trB digT (v.take p)) : Nat)), ("ones", .int (oneN (v.take p) : Nat)), ("ahead", .bool ((v.take (p + 1)).all is1)), ("sign", .int x.toNat)]) (σ₁ := [.itB v (p + 1)]) (Ex1.set (v := .bool ((v.take (p + 1)).all is1)) H ?_) ?_
    · rw [ht, all_snoc]
      cases ha : (v.take p).all is1 with
      | false => exact Ev.andF (Ev.loc H) Tru.bool
      | true => exact Ev.andT (Ev.loc H) Tru.bool (Ev.cmp (Ev.loc H) Ev.cint (Op2.eqI' (by
          show ((x.toNat : Int) == 49) = is1 x
          unfold is1
          rw [Bool.eq_iff_iff]
          simp only [beq_iff_eq]
          constructor
          · intro h; exact UInt8.toNat_inj.mp (by show x.toNat = 49; omega)
          · rintro rfl; rfl)))
    refine Ex.next (σ₁ := [.itB v (p + 1)]) (Ex1.set (v := .int (oneN (v.take (p + 1)) : Nat)) H ?_) ?_
    · have e1 : oneN (v.take (p + 1)) = oneN (v.take p) + if (v.take (p + 1)).all is1 then 1 else 0 := by
        rw [ht, oneN_snoc, all_snoc]
      rw [e1]
      cases ha : (v.take (p + 1)).all is1 with
      | false => exact Ev.bin (Ev.loc H) (Ev.ifF (Tst.of (Ev.loc H) Tru.bool) Ev.cint) (Op2.addN (b := 0))
      | true => exact Ev.bin (Ev.loc H) (Ev.ifT (Tst.of (Ev.loc H) Tru.bool) Ev.cint) (Op2.addN (b := 1))
    have e2 : hor (trB digT (v.take (p + 1))) = hor (trB digT (v.take p)) * 58 + (digT.getD x.toNat x).toNat := by
      rw [ht, trB_app]
      exact hor_snoc _ _
    show Ex c _ _ _ (.next [("text", .bytes v), ("number", .int (hor (trB digT (v.take (p + 1))) : Nat)), ("ones", .int (oneN (v.take (p + 1)) : Nat)), ("ahead", .bool ((v.take (p + 1)).all is1)), ("sign", .int (v.getD p 0).toNat)] _)
    rw [hx', e2]
    refine Ex.next (Ex1.set H (Ev.bin (Ev.bin (Ev.loc H) Ev.cint (Op2.mulN (b := 58) (n := 8 * p) (m := 6) (Nat.lt_of_lt_of_le (hor_lt _) (Nat.pow_le_pow_right (by decide) (by rw [trB_length, List.length_take]; omega))) (by decide) (by omega))) (Ev.meth H.O (Ev.con H gc_signs) Meth.index (Evs.cons (Ev.loc H) Evs.nil) Kws.nil (Cl.index (by omega) (by omega) (by decide) (by rw [hxx]; exact index_alpha hca))) Op2.addN)) Ex.nil
  have hT : v.take v.length = v := List.take_length
  have hnum : (rdR v v.length).lookup ("number" : PySem.Str) = some (V.int (hor (trB digT v) : Nat)) := by
    have : (rdR v v.length).lookup ("number" : PySem.Str) = some (V.int (hor (trB digT (v.take v.length)) : Nat)) := by cases v.length <;> rfl
    rw [this, hT]
  have hone : (rdR v v.length).lookup ("ones" : PySem.Str) = some (V.int (oneN v : Nat)) := by
    have : (rdR v v.length).lookup ("ones" : PySem.Str) = some (V.int (oneN (v.take v.length) : Nat)) := by cases v.length <;> rfl
    rw [this, hT]
  have hol : oneN v ≤ v.length := Nat.sub_le _ _
  have hnb : nby (hor (trB digT v)) ≤ v.length := by
    have := bits_le (hor_lt (trB digT v))
    rw [trB_length] at this
    unfold nby
    omega
  have e7 : Int.fdiv ((Builtin.Int.intBits (hor (trB digT v) : Int) : Int) + 7) 8 = (nby (hor (trB digT v)) : Int) := by
    have := fdiv_nat (Builtin.Int.intBits (hor (trB digT v) : Int) + 7) 8
    push_cast at this
    exact this
  have hdl := decB_length v
  have hbl := bodyB_length v
  obtain ⟨ρ₂, hρ₂⟩ : ∃ ρ₂, ρ₂ = setL "octets" (.bytes (decB v)) (rdR v v.length) := ⟨_, rfl⟩
  have hoct : ρ₂.lookup ("octets" : PySem.Str) = some (V.bytes (decB v)) := by rw [hρ₂]; cases v.length <;> rfl
  refine Ex.next (ρ' := ρ₂) (σ₁ := []) ?_ ?_
  · rw [hρ₂]
    refine Ex1.set H (Ev.eq (Ev.bin (Ev.bc H bt_bytes (Evs.cons (Ev.loc H hone) Evs.nil) Kws.nil (Cl.bytesI (by omega))) (Ev.meth H.O (Ev.loc H hnum) Meth.to_bytes (Evs.cons (Ev.eq (Ev.bin (Ev.bin (Ev.meth0 H.O (Ev.loc H hnum) Meth.bit_length Cl.bit_length) Ev.cint Op2.add) Ev.cint (Op2.fdiv (by decide) (by decide))) (congrArg V.int e7)) (Evs.cons Ev.cstr Evs.nil)) Kws.nil (Cl.to_bytes (x := hor (trB digT v)) (by omega) (lt_nby _))) (Op2.addB (by rw [List.length_replicate, beB_length]; omega))) ?_)
    rw [decB_read]
  rw [tell_ok hz hx]
  have hlen : ∀ {np p1 pos : Pos}, Ev c ρ₂ [] (.Call (.Name "len" np) [.Name "octets" p1] [] pos) (.val (.int ((decB v).length : Nat)) []) := fun {np p1 pos} => Ev.bc H bt_len (Evs.cons (Ev.loc H hoct) Evs.nil) Kws.nil (Cl.lenB (by omega))
  by_cases h3 : (decB v).length < 4
  · rw [if_pos h3]
    exact Ex.ret (Ex1.ifT (Tst.bool (Tsts.orT (Tst.cmp hlen Ev.cint (Op2.lt' (decide_eq_true (by omega)))))) (Ex.ret (Ex1.ret Ev.cnone)))
  rw [if_neg h3]
  have ht4 : (tailB v).length = 4 := sl_tail _ (by omega)
  have hbody : ∀ {np p1 p2 p3 pos : Pos} {kk : Nat}, Ev c ρ₂ [] (.Subscript (.Name "octets" np) (.Slice none (some (.UnaryOp .USub (.Constant (.int 4) kk p1) p2)) none p3) pos) (.val (.bytes (bodyB v)) []) := fun {_ _ _ _ _ _} => Ev.sliceB (Ev.loc H hoct) Part.none (Part.some (Ev.un Ev.cint Op1.neg)) (by omega)
  have htail : ∀ {np p1 p2 p3 pos : Pos} {kk : Nat}, Ev c ρ₂ [] (.Subscript (.Name "octets" np) (.Slice (some (.UnaryOp .USub (.Constant (.int 4) kk p1) p2)) none none p3) pos) (.val (.bytes (tailB v)) []) := fun {_ _ _ _ _ _} => Ev.sliceB (Ev.loc H hoct) (Part.some (Ev.un Ev.cint Op1.neg)) Part.none (by omega)
  by_cases h4 : tailB v = chkB (bodyB v)
  · rw [if_pos h4]
    refine Ex.next (Ex1.ifF (Tst.bool (Tsts.orF (Tst.cmp hlen Ev.cint (Op2.lt' (decide_eq_false (by omega)))) (Tsts.orF (Tst.cmp (Ev.sliceB (Ev.fc H gf_hash256 (Evs.cons hbody Evs.nil) Kws.nil (Cl.fun0 (f_hash256 (bodyB v) (by omega)) H.O (by rw [H.hd]; decide) noTn rfl rfl)) Part.none (Part.some Ev.cint) (by rw [hashB_length]; decide)) htail (Op2.neB' (by rw [h4]; unfold chkB; simp))) Tsts.orNil))) Ex.nil) ?_
    exact Ex.ret (Ex1.ret hbody)
  · rw [if_neg h4]
    exact Ex.ret (Ex1.ifT (Tst.bool (Tsts.orF (Tst.cmp hlen Ev.cint (Op2.lt' (decide_eq_false (by omega)))) (Tsts.orT (Tst.cmp (Ev.sliceB (Ev.fc H gf_hash256 (Evs.cons hbody Evs.nil) Kws.nil (Cl.fun0 (f_hash256 (bodyB v) (by omega)) H.O (by rw [H.hd]; decide) noTn rfl rfl)) Part.none (Part.some Ev.cint) (by rw [hashB_length]; decide)) htail (Op2.neB' (by unfold chkB at h4; simpa using fun h => h4 h.symm)))))) (Ex.ret (Ex1.ret Ev.cnone)))
theorem tell_long {v : List UInt8} (h : 112 < v.length) : tell v = none := by unfold tell; rw [if_pos h]
theorem tell_bad {v : List UInt8} (h : okB v = false) : tell v = none := by
  unfold tell
  split <;> simp [h]
theorem f_law_read (v : List UInt8) (hz : v.length ≤ 1000) : FunOk 166 4 false [.bytes v] [] [] [] (.ok (toldV (tell v))) := by
  by_cases h1 : 112 < v.length
  · rw [tell_long h1]; exact f_law_read_long v hz h1
  cases h2 : okB v with
  | false => rw [tell_bad h2]; exact f_law_read_bad v (by omega) h2
  | true => exact f_law_read_ok v (by omega) h2
end Mine

/-! U1 -/
namespace Mine
section
open Builtin
/-- the record of a text that can't be written -/
structure Uni (h h' : Heap) (e : Nat) (p : Int) : Prop where
  keeps : ∀ b o, h.get? b = some o → h'.get? b = some o
  new : h.get? e = none
  there : ∃ t enc ob q reason, h'.get? e = some { cls := .type "UnicodeEncodeError", data := .fields #[.ref t, .none, .none, .none, .bool false, .none, enc, ob, rawInt p, rawInt q, reason] }

theorem loop_second {α : Type} (f : Nat → α → Sem (ForInStep α)) (n : Nat) (s0 s1 : α) (h0 : ∀ x, f x s0 = pure (.yield s1)) : ∃ k, forIn (m := Sem) (List.range (n + 2)) s0 f = (f 1 s1 >>= k) := by
  rw [List.range_succ_eq_map, List.forIn_cons, h0, List.range_succ_eq_map, List.map_cons]
  exact ⟨_, List.forIn_cons ..⟩
/-- ascii signs, then one beyond, then ascii signs -/
def uni (a b : List UInt8) : PySem.Str := asS a ++ (⟨#[233]⟩ : PySem.Str) ++ asS b
theorem uni_cps (a b : List UInt8) : (uni a b).cps = ((a.map fun y => y.toNat) ++ 233 :: (b.map fun y => y.toNat)).toArray := by
  show ((a.map fun y => y.toNat).toArray ++ #[233]) ++ (b.map fun y => y.toNat).toArray = _
  simp
theorem uni_length (a b : List UInt8) : (uni a b).length = a.length + 1 + b.length := by
  show (uni a b).cps.size = _
  rw [uni_cps]
  simp
  omega
theorem uf_newFacts : ExcNewFacts "UnicodeEncodeError" "UnicodeEncodeError.__new__" where
  ends := by decide +kernel
  owner := by decide +kernel
  entry := entryFor_alias (id' := "BaseException.__new__") (by rw [fastTable_eq_tree]; kernel_rfl) (by decide +kernel) (by decide +kernel) (by rw [fastTable_eq_tree]; kernel_rfl)
  sub := by rw [isSubtype_type]; kernel_rfl
  notAttr := by rw [isSubtype_type]; kernel_rfl
  notName := by rw [isSubtype_type]; kernel_rfl
  made := by kernel_rfl
theorem uf_called : TypeCalled "UnicodeEncodeError" "UnicodeEncodeError.__new__" "UnicodeEncodeError.__init__" where
  notType := by decide +kernel
  canCreate := by decide +kernel
  mro := ⟨.type "UnicodeEncodeError", [.type "UnicodeError", .type "ValueError", .type "Exception", .type "BaseException", .type "object"], by rw [mroOf_type]; kernel_rfl⟩
  made := by kernel_rfl
  plain := by decide +kernel
  sub := by rw [isSubtype_type]; kernel_rfl
  init := .of (owner := "UnicodeEncodeError") (n := "__init__") (by rw [typeLookup_type, builtinLookup_eq_fast]; kernel_rfl) (by decide +kernel) (by decide +kernel) (by decide +kernel)
    (by first | exact .inl (by decide +kernel) | exact .inr (by decide +kernel)) (by rw [isSubtype_type]; kernel_rfl)
theorem uf_typeCall (args : Args) : checkTypeCall "UnicodeEncodeError" args = pure () := by kernel_rfl
theorem uf_newCall (rest : List Value) : checkBuiltinCall "UnicodeEncodeError.__new__" ⟨.type "UnicodeEncodeError" :: rest, []⟩ = pure () := by kernel_rfl
theorem uf_init : entryFor table "UnicodeEncodeError.__init__" = some Builtin.«UnicodeEncodeError.__init__» := entryFor_of_tree (by kernel_rfl)
theorem uf_args (a b d e f g : Value) : argsOk "UnicodeEncodeError.__init__" ⟨[a, b, d, e, f, g], []⟩ := by unfold argsOk; kernel_rfl
theorem wpAny_members0 {M : Model} {A : Around} {E : Value → Shared → Prop} {s : Shared} {a : Nat} {o : Obj} {vs : Array Value} {Q : UnicodeEncodeError.Members → Shared → Prop} (ho : s.heap.get? a = some o) (hd : o.data = .fields vs) (hv : (vs.extract 6).toList = []) (h : Q {} s) :
    wpAny M A (UnicodeEncodeError.members (.ref a)) Q E s := by
  unfold UnicodeEncodeError.members
  refine wpAny_bind (wpAny_fieldsOf ho hd ?_)
  rw [hv]
  exact wpAny_pure h
theorem wpAny_members5 {M : Model} {A : Around} {E : Value → Shared → Prop} {s : Shared} {a : Nat} {o : Obj} {vs : Array Value} {enc ob reason : Value} {p q : Int} {t u : Tok} {Q : UnicodeEncodeError.Members → Shared → Prop} (ho : s.heap.get? a = some o) (hd : o.data = .fields vs) (hv : (vs.extract 6).toList = [enc, ob, .int p t, .int q u, reason]) (h : Q ⟨enc, ob, p, q, reason⟩ s) :
    wpAny M A (UnicodeEncodeError.members (.ref a)) Q E s := by
  unfold UnicodeEncodeError.members
  refine wpAny_bind (wpAny_fieldsOf ho hd ?_)
  rw [hv]
  exact wpAny_pure h
theorem wpAny_asIndex_int {M : Model} {A : Around} {E : Value → Shared → Prop} {s : Shared} {i : Int} {t : Tok} {Q : Int → Shared → Prop} (h : Q i s) : wpAny M A (asIndex (.int i t)) Q E s := wpAny_of_eq (a := i) rfl h
theorem arr_get (vs : Array Value) : vs.toList.toArray = vs := by simp
section
variable {M : Model} {A : Around} {E : Value → Shared → Prop}
theorem uf_setMembers {s : Shared} {a : Nat} {cls : Value} {v0 v1 v2 v3 v4 v5 : Value} {tl : List Value} {m : UnicodeEncodeError.Members} {Q : Unit → Shared → Prop}
    (ho : s.heap.get? a = some { cls := cls, data := .fields (v0 :: v1 :: v2 :: v3 :: v4 :: v5 :: tl).toArray })
    (h : ∀ h', (∀ b, b ≠ a → h'.get? b = s.heap.get? b) → h'.get? a = some { cls := cls, data := .fields [v0, v1, v2, v3, v4, v5, m.encoding, m.object, rawInt m.start, rawInt m.stop, m.reason].toArray } → Q () { s with heap := h' }) :
    wpAny M A (UnicodeEncodeError.setMembers (.ref a) m) Q E s := by
  unfold UnicodeEncodeError.setMembers
  refine wpAny_updateFields ho rfl (h _ (fun b hb => Heap.get?_update_other _ _ hb.symm) ?_) ?_
  · rw [Heap.get?_update_self _ ho rfl]
    simp [Obj.mapFields]
  · simp [sizeLine_eq]
theorem uf_members5 {s : Shared} {a : Nat} {cls : Value} {v0 v1 v2 v3 v4 v5 enc ob reason : Value} {p q : Int} {Q : UnicodeEncodeError.Members → Shared → Prop}
    (ho : s.heap.get? a = some { cls := cls, data := .fields [v0, v1, v2, v3, v4, v5, enc, ob, rawInt p, rawInt q, reason].toArray }) (h : Q ⟨enc, ob, p, q, reason⟩ s) : wpAny M A (UnicodeEncodeError.members (.ref a)) Q E s :=
  wpAny_members5 ho rfl (by rfl) h
end
/-- the record is filled -/
theorem uf_fill {prog : Program} {w : World} {A : Around} {E : Value → Shared → Prop} {s : Shared} {a : Nat} {t0 : Nat} {x y z : PySem.Str} {p q : Int} {t1 t2 t3 t4 t5 : Tok} {Q : Fin → Shared → Prop}
    (ho : s.heap.get? a = some { cls := .type "UnicodeEncodeError", data := .fields #[.ref t0, .none, .none, .none, .bool false, .none] })
    (hp : 0 ≤ p ∧ p < 2 ^ 62) (hq : 0 ≤ q ∧ q < 2 ^ 62)
    (h : ∀ h' t enc ob r reason k, (∀ b o, b ≠ a → s.heap.get? b = some o → h'.get? b = some o) → h'.get? a = some { cls := .type "UnicodeEncodeError", data := .fields #[.ref t, .none, .none, .none, .bool false, .none, enc, ob, rawInt p, rawInt r, reason] } → Q (.done (.ret .none)) { s with heap := h', toks := k }) :
    wpAny (model prog w) A (Builtin.«UnicodeEncodeError.__init__» ⟨[.ref a, .str x t1, .str y t2, .int p t3, .int q t4, .str z t5], []⟩) Q E s := by
  unfold Builtin.«UnicodeEncodeError.__init__»
  dsimp only
  unfold UnicodeEncodeError.beginInit
  have hlt := Heap.lt_size ho
  refine wpAny_bind ?_
  dsimp only
  rw [if_neg (by decide)]
  refine wpAny_bind (wpAny_field ho rfl (x := .ref t0) rfl ?_)
  refine wpAny_bind (wpAny_newTuple ?_)
  have h1 := Heap.get?_push_of_some (h := s.heap) { cls := .type "tuple", data := .seq ([.str x t1, .str y t2, .int p t3, .int q t4, .str z t5] : List Value).toArray } ho
  refine wpAny_bind (wpAny_setField h1 rfl (by simp) ?_)
  have h2 := Heap.get?_update_self (Obj.mapFields (·.setIfInBounds 0 (Value.ref s.heap.objs.size))) h1 rfl
  have k2 : ∀ b o, b ≠ a → s.heap.get? b = some o → ((s.heap.push { cls := .type "tuple", data := .seq ([.str x t1, .str y t2, .int p t3, .int q t4, .str z t5] : List Value).toArray }).update a (Obj.mapFields (·.setIfInBounds 0 (Value.ref s.heap.objs.size)))).get? b = some o := fun b o hb e => (Heap.get?_update_other _ _ hb.symm).trans (Heap.get?_push_of_some _ e)
  refine wpAny_bind (wpAny_letGo ?_)
  generalize hg : ((s.heap.push { cls := .type "tuple", data := .seq ([.str x t1, .str y t2, .int p t3, .int q t4, .str z t5] : List Value).toArray }).update a (Obj.mapFields (·.setIfInBounds 0 (Value.ref s.heap.objs.size)))) = g2 at h2 k2 ⊢
  replace h2 : g2.get? a = some { cls := .type "UnicodeEncodeError", data := .fields [.ref s.heap.objs.size, .none, .none, .none, .bool false, .none].toArray } := h2
  rw [if_pos (by decide)]
  refine wpAny_bind (wpAny_members0 h2 rfl (by rfl) ?_)
  refine wpAny_bind (uf_setMembers h2 fun g3 k3 h3 => ?_)
  refine wpAny_bind (wpAny_letGo ?_)
  refine wpAny_bind (uf_members5 h3 ?_)
  refine wpAny_bind (uf_setMembers h3 fun g4 k4 h4 => ?_)
  refine wpAny_bind (wpAny_letGo ?_)
  refine wpAny_bind (uf_members5 h4 ?_)
  refine wpAny_bind (uf_setMembers h4 fun g5 k5 h5 => ?_)
  refine wpAny_bind (wpAny_letGo ?_)
  rw [if_neg (by simp)]
  refine wpAny_pure ?_
  dsimp only
  unfold UnicodeEncodeError.strArgument
  refine wpAny_bind (wpAny_bind (wpAny_of_eq (a := some x) rfl ?_))
  rw [if_neg (by simp)]
  refine wpAny_pure ?_
  refine wpAny_bind (wpAny_bind (wpAny_of_eq (a := some y) rfl ?_))
  rw [if_neg (by simp)]
  refine wpAny_pure ?_
  unfold UnicodeEncodeError.initRange UnicodeEncodeError.sizeArgument
  refine wpAny_bind (wpAny_bind (wpAny_bind (wpAny_asIndex_int ?_)))
  rw [if_neg (by simp; omega)]
  refine wpAny_bind (wpAny_pure (wpAny_pure ?_))
  refine wpAny_bind (uf_members5 h5 ?_)
  refine wpAny_bind (uf_setMembers h5 fun g6 k6 h6 => ?_)
  refine wpAny_bind (wpAny_bind (wpAny_asIndex_int ?_))
  rw [if_neg (by simp; omega)]
  refine wpAny_bind (wpAny_pure (wpAny_pure ?_))
  refine wpAny_bind (uf_members5 h6 ?_)
  refine uf_setMembers h6 fun g7 k7 h7 => ?_
  refine wpAny_bind (wpAny_bind (wpAny_of_eq (a := some z) rfl ?_))
  rw [if_neg (by simp)]
  refine wpAny_pure ?_
  refine wpAny_bind (uf_members5 h7 ?_)
  refine wpAny_bind (uf_setMembers h7 fun g8 k8 h8 => ?_)
  refine wpAny_pure (h g8 _ _ _ _ _ _ (fun b o hb e => ?_) h8)
  rw [k8 b hb, k7 b hb, k6 b hb, k5 b hb, k4 b hb, k3 b hb]
  exact k2 b o hb e
end
end Mine

/-! U2 -/
namespace Mine
section
open Builtin
theorem uf_call {prog : Program} {w : World} {A : Around} {E : Value → Shared → Prop} {s : Shared} {x y z : PySem.Str} {p q : Int} {t1 t2 t3 t4 t5 : Tok} {Q : Value → Shared → Prop}
    (hp : 0 ≤ p ∧ p < 2 ^ 62) (hq : 0 ≤ q ∧ q < 2 ^ 62) (h : ∀ h' e k, Uni s.heap h' e p → Q (.ref e) { s with heap := h', toks := k }) :
    wpAny (model prog w) A (PySem.call (.type "UnicodeEncodeError") [.str x t1, .str y t2, .int p t3, .int q t4, .str z t5]) Q E s := by
  obtain ⟨hp0, g, d, tk, os⟩ := s
  let rest : List Value := [.str x t1, .str y t2, .int p t3, .int q t4, .str z t5]
  let H : Heap := (hp0.push { cls := .type "tuple", data := .seq rest.toArray }).push { cls := .type "UnicodeEncodeError", data := .fields #[.ref hp0.objs.size, .none, .none, .none, .bool false, .none] }
  have hget : H.get? (hp0.objs.size + 1) = some { cls := .type "UnicodeEncodeError", data := .fields #[.ref hp0.objs.size, .none, .none, .none, .bool false, .none] } := by
    show Heap.get? (Heap.push (Heap.push _ _) _) _ = _
    heap_get
  refine callType_codes (Q₁ := fun obj s₁ => obj = .ref (hp0.objs.size + 1) ∧ s₁ = ⟨H, g, d, tk, os⟩) uf_called (uf_typeCall _) uf_init ?_ fun obj s₁ h₁ => ?_
  · refine codeAny_of_tree ?_
    show wpAny _ _ (do checkBuiltinCall "UnicodeEncodeError.__new__" ⟨.type "UnicodeEncodeError" :: rest, []⟩; again (.builtin "UnicodeEncodeError.__new__" ⟨.type "UnicodeEncodeError" :: rest, []⟩)) _ _ _
    refine wpAny_bind (wpAny_of_eq (uf_newCall rest) (wpAny_pure ⟨plainId_quiet uf_called.plain _, ?_⟩))
    exact codeAny_exc_new uf_newFacts ⟨rfl, rfl⟩ (by rw [sizeLine_eq]; show (5 : Nat) ≤ _; omega)
  · obtain ⟨rfl, rfl⟩ := h₁
    refine ⟨⟨_, hget, rfl⟩, uf_args _ _ _ _ _ _, ?_⟩
    refine uf_fill hget hp hq fun h' t enc ob stop reason k hk hg => ?_
    refine ⟨rfl, h h' _ k ⟨fun b o e => ?_, Heap.get?_none_of_le (Nat.le_succ _), t, enc, ob, stop, reason, hg⟩⟩
    have hlt := Heap.lt_size e
    exact hk b o (Nat.ne_of_lt (Nat.lt_succ_of_lt hlt)) (Heap.get?_push_of_some _ (Heap.get?_push_of_some _ e))
theorem uf_raise {prog : Program} {w : World} {A : Around} {E : Value → Shared → Prop} {s : Shared} {α : Type} {x : PySem.Str} {p q : Nat} {t1 : Tok} {Q : α → Shared → Prop} (hh : A.handled = none)
    (hp : p < 2 ^ 62) (hq : q < 2 ^ 62) (h : ∀ h' e k, Uni s.heap h' e p → E (.ref e) { s with heap := h', toks := k }) :
    wpAny (model prog w) A (_codecs.raiseEncodeFault {} "ascii" (.str x t1) p q "ordinal not in range(128)" : Sem α) Q E s := by
  show wpAny _ _ (do let e ← (do PySem.call (.type "UnicodeEncodeError") [← mkStr "ascii", ← pure (.str x t1), ← mkInt p, ← mkInt q, ← mkStr "ordinal not in range(128)"]); raiseNew e) _ _ _
  refine wpAny_bind (wpAny_bind (wpAny_mkStr (wpAny_bind (wpAny_pure (wpAny_bind (wpAny_mkInt (wpAny_bind (wpAny_mkInt (wpAny_bind (wpAny_mkStr ?_)))))))))) 
  refine uf_call ⟨by omega, by omega⟩ ⟨by omega, by omega⟩ fun h' e k U => ?_
  exact wpAny_raiseNew_none hh (h h' e k U)
end
end Mine

/-! U3 -/
namespace Mine
section
open Builtin
theorem st_name : ((none : Option PySem.Str).getD (PySem.Str.ofString "strict")).toString = "strict" := by decide +kernel
theorem wpAny_loop_second {α : Type} {M : Model} {A : Around} {E : Value → Shared → Prop} {s : Shared} {f : Nat → α → Sem (ForInStep α)} {n : Nat} {s0 s1 : α} {Q : α → Shared → Prop} (h0 : ∀ x, f x s0 = pure (.yield s1)) (h : ∀ Q', wpAny M A (f 1 s1) Q' E s) :
    wpAny M A (forIn (m := Sem) (List.range (n + 2)) s0 f) Q E s := by
  obtain ⟨k, hk⟩ := loop_second f n s0 s1 h0
  rw [hk]
  exact wpAny_bind (h _)
theorem wpAny_of_cast {α : Type} {M : Model} {A : Around} {E : Value → Shared → Prop} {s : Shared} {t u : Sem α} {Q : α → Shared → Prop} (e : u = t) (h : wpAny M A t Q E s) : wpAny M A u Q E s := by rw [e]; exact h
theorem enc_bad {prog : Program} {w : World} {A : Around} {E : Value → Shared → Prop} {s : Shared} {id : String} {t : Tok} {a b : List UInt8} {Q : Array UInt8 → Shared → Prop} (hh : A.handled = none) (ha : ∀ x ∈ a, x.toNat < 128) (h0 : a ≠ []) (hz : a.length + 1 + b.length ≤ 100000)
    (h : ∀ h' e k, Uni s.heap h' e a.length → E (.ref e) { s with heap := h', toks := k }) :
    wpAny (model prog w) A (_codecs.encodeNarrow id _codecs.asciiCodec none (.str (uni a b) t) (uni a b)) Q E s := by
  unfold _codecs.encodeNarrow
  simp only [forIn_range]
  rw [uni_length]
  cases a with
  | nil => exact absurd rfl h0
  | cons x r =>
    obtain ⟨X, hX⟩ : ∃ X, X = uni (x :: r) b := ⟨_, rfl⟩
    rw [← hX]
    have hc : X.cps = (((x :: r).map fun y => y.toNat) ++ 233 :: (b.map fun y => y.toNat)).toArray := by rw [hX]; exact uni_cps _ _
    have hx : X.cps[0]? = some x.toNat := by rw [hc]; rfl
    have he : X.cps.extract 0 = X.cps := by simp
    have hsz : X.cps.size = (x :: r).length + 1 + b.length := by rw [hc]; simp; omega
    have hal : ∀ y ∈ (x :: r).map (fun y => y.toNat), _codecs.asciiCodec.bad y = false := fun y hy => by
      obtain ⟨z, hz', rfl⟩ := List.mem_map.mp hy
      show decide (z.toNat ≥ 128) = false
      have := ha z hz'
      simp; omega
    have hf : Array.findIdx? _codecs.asciiCodec.bad X.cps = some (x :: r).length := by
      rw [hc]
      rw [List.findIdx?_toArray, List.findIdx?_append]
      have e1 : List.findIdx? _codecs.asciiCodec.bad ((x :: r).map fun y => y.toNat) = none := by
        rw [List.findIdx?_eq_none_iff]
        exact hal
      rw [e1]
      have e2 : List.findIdx? _codecs.asciiCodec.bad (233 :: (b.map fun y => y.toNat)) = some 0 := by
        rw [List.findIdx?_cons]
        rfl
      rw [e2]
      simp
    have hbad : _codecs.asciiCodec.bad x.toNat = false := hal _ (.head _)
    rw [show (x :: r).length + 1 + b.length = (r.length + b.length) + 2 by simp; omega]
    refine wpAny_bind (wpAny_loop_second (s1 := ((x :: r).length, (x :: r).toArray, ({} : _codecs.Faults))) (fun y => ?_) (fun Q' => ?_))
    · dsimp only
      rw [if_neg (show ¬ ((#[] : Array UInt8).size > sizeLine) by simp), hx]
      dsimp only
      rw [hbad, if_pos (show (!false) = true from rfl), he, hf]
      dsimp only [Option.getD_some]
      have h1 : X.cps.extract 0 X.cps.size = X.cps := by simp
      have h2 : X.cps.extract 0 (x :: r).length = ((x :: r).map fun y => y.toNat).toArray := by
        rw [hc]
        apply Array.toList_inj.mp
        simp
      have h3 : Array.foldl (fun acc y => acc ++ (_codecs.asciiCodec.bytesOf y).toArray) #[] (X.cps.extract 0 (x :: r).length) = (x :: r).toArray := by
        rw [h2, enc_fold, Array.empty_append]
      simp only [Nat.zero_add, h1, h3]
    · dsimp only
      rw [if_neg (show ¬ ((x :: r).toArray.size > sizeLine) by rw [sizeLine_eq]; simp at hz ⊢; omega)]
      have h233 : X.cps[(x :: r).length]? = some 233 := by rw [hc]; simp
      rw [h233]
      dsimp only
      rw [show _codecs.asciiCodec.bad 233 = true from rfl, if_neg (show ¬ ((!true) = true) by decide)]
      refine wpAny_bind (wpAny_rule ?_)
      rw [st_name]
      have hY : (X.cps.extract (x :: r).length).size ≤ X.cps.size := by rw [Array.size_extract]; omega
      generalize X.cps.extract (x :: r).length = Y at hY ⊢
      have hn : (Array.findIdx? (fun y => !_codecs.asciiCodec.bad y) Y).getD (X.cps.size - (x :: r).length) ≤ X.cps.size := by
        cases hi : Array.findIdx? (fun y => !_codecs.asciiCodec.bad y) Y with
        | none => exact Nat.sub_le _ _
        | some i =>
          have := (Array.findIdx?_eq_some_iff_getElem.mp hi).1
          exact Nat.le_of_lt (Nat.lt_of_lt_of_le this hY)
      generalize (Array.findIdx? (fun y => !_codecs.asciiCodec.bad y) Y).getD (X.cps.size - (x :: r).length) = n at hn ⊢
      split
      · next bytes hm =>
        split at hm
        all_goals first | (cases hm; done) | (rename_i hst; exact absurd hst (by decide))
      · refine if_so rfl (wpAny_bind (uf_raise hh ?_ ?_ h))
        · simp at hz ⊢; omega
        · rw [hsz] at hn; simp at hz hn ⊢; omega
end
end Mine

/-! U4 -/
namespace Mine
namespace UF
theorem ga : Slot "UnicodeEncodeError" "__getattribute__" "BaseException.__getattribute__" :=
  .of (owner := "BaseException") (n := "__getattribute__") (by rw [typeLookup_type, builtinLookup_eq_fast]; kernel_rfl) (by decide +kernel) (by decide +kernel) (by decide +kernel)
    (by first | exact .inl (by decide +kernel) | exact .inr (by decide +kernel)) (by rw [isSubtype_type]; kernel_rfl)
theorem lk : typeLookup (.type "UnicodeEncodeError") "start" = pure (some (.builtin "UnicodeEncodeError.start")) := by rw [typeLookup_type, builtinLookup_eq_fast]; kernel_rfl
theorem ty : typeOf (.builtin "UnicodeEncodeError.start") = pure (.type "member_descriptor") := by show builtinType _ = _; rw [builtinType_eq_fast]; kernel_rfl
theorem entry : entryFor table "UnicodeEncodeError.start" = some Builtin.«UnicodeEncodeError.start» := entryFor_of_tree (by kernel_rfl)
theorem sub : isSubtype (.type "UnicodeEncodeError") (.type "UnicodeEncodeError") = pure true := by rw [isSubtype_type]; kernel_rfl
theorem own : (".".intercalate ("UnicodeEncodeError.start".cutAt '.').dropLast) = "UnicodeEncodeError" := by
  have e0 : "UnicodeEncodeError.start".cutAt '.' = ["UnicodeEncodeError", "start"] := by first | rfl | decide +kernel
  rw [e0]; decide +kernel
end UF
section
variable {prog : Program} {w : World} {A : Around} {E : Value → Shared → Prop} {h : Heap} {g : Array GenState} {d : Drawn} {t : Nat} {os : OsState} {a : Addr} {t0 enc ob stop reason : Value} {v1 : Value} {p : Int}
abbrev uniO (t0 v1 enc ob stop reason : Value) (p : Int) : Obj := { cls := .type "UnicodeEncodeError", data := .fields #[t0, v1, .none, .none, .bool false, .none, enc, ob, rawInt p, stop, reason] }
theorem start_get {q : Int} {R : Result → Shared → Prop} (hx : h.get? a = some (uniO t0 v1 enc ob (rawInt q) reason p)) (hq : R (.ok (.ret (.int p t))) ⟨h, g, d, t + 1, os⟩) :
    codeAny (model prog w) A (.call (.builtin "member_descriptor.__get__") ⟨[.builtin "UnicodeEncodeError.start", .ref a, .type "UnicodeEncodeError"], []⟩) R ⟨h, g, d, t, os⟩ := by
  have hT : (⟨h, g, d, t, os⟩ : Shared).TypeIs (.ref a) "UnicodeEncodeError" := ⟨_, hx, rfl⟩
  have hT5 : (⟨h, g, d, t, os⟩ : Shared).TypeIs (.builtin "UnicodeEncodeError.start") "member_descriptor" := UF.ty
  have f8 : isSubtype (.type "UnicodeEncodeError") (.type (".".intercalate ("UnicodeEncodeError.start".cutAt '.').dropLast)) = pure true := by rw [UF.own]; exact UF.sub
  refine codeAny_call_builtin KF.slot_mem.plain KF.entry_mem (KF.slot_mem.check _ _ _ _ _ _ _ _ hT5 (KF.args_mem _ _ _) ?_)
  repeat (any_goals (first | assumption | wp_step))
  refine ⟨Code.quiet_builtin _ (by decide +kernel), codeAny_builtin UF.entry ?_⟩
  unfold Builtin.«UnicodeEncodeError.start» Builtin.UnicodeEncodeError.sizeGet
  dsimp only
  refine wpAny_bind (wpAny_members5 hx rfl (by rfl) ?_)
  exact wpAny_bind (wpAny_mkInt (wpAny_pure hq))
theorem start_attr {q : Int} {expr : Bool} {Q : Value → Shared → Prop} (hx : h.get? a = some (uniO t0 v1 enc ob (rawInt q) reason p)) (hq : ∀ k k', Q (.int p k) ⟨h, g, d, k', os⟩) :
    wpAny (model prog w) A (getAttr (.ref a) "start" expr) Q E ⟨h, g, d, t, os⟩ := by
  have hT : ∀ t, (⟨h, g, d, t, os⟩ : Shared).TypeIs (.ref a) "UnicodeEncodeError" := fun t => ⟨_, hx, rfl⟩
  have hT5 : ∀ t, (⟨h, g, d, t, os⟩ : Shared).TypeIs (.builtin "UnicodeEncodeError.start") "member_descriptor" := fun t => UF.ty
  have ent : ∀ {A : Around} {E : Value → Shared → Prop} {t : Nat} {tk : Tok} {Q : Fin → Shared → Prop}, (∀ k k', Q (.done (.ret (.int p k))) ⟨h, g, d, k', os⟩) → wpAny (model prog w) A (Builtin.«object.__getattribute__» ⟨[.ref a, .str "start" tk], []⟩) Q E ⟨h, g, d, t, os⟩ := fun {A E t tk Q} hq => by
    have hT := hT t
    have hT5 := hT5 t
    have f4 := UF.lk
    have f5 := UF.ty
    have f6 := KF.slot_mem.lookup
    have f7 := KF.slot_mset.lookup
    repeat (any_goals (first | assumption | wp_step))
    refine start_get hx ?_
    repeat (any_goals (first | assumption | exact hq _ _ | wp_step))
  have call : ∀ {A : Around} {t : Nat} {tk : Tok} {R : Result → Shared → Prop}, (∀ k k', R (.ok (.ret (.int p k))) ⟨h, g, d, k', os⟩) → codeAny (model prog w) A (.call (.builtin "BaseException.__getattribute__") ⟨[.ref a, .str "start" tk], []⟩) R ⟨h, g, d, t, os⟩ := fun {A t tk R} hq =>
    codeAny_call_builtin UF.ga.plain F.entry_bexc_ga (UF.ga.check _ _ _ _ _ _ _ _ (hT t) (F.args_bexc_ga _ _) (ent fun k k' => hq k k'))
  have by_ : ∀ {A : Around} {E : Value → Shared → Prop} {t : Nat} {tk : Tok} {fill expr : Bool} {Q : Value → Shared → Prop}, (∀ k k', Q (.int p k) ⟨h, g, d, k', os⟩) → wpAny (model prog w) A (getAttrBy (.ref a) (.str "start" tk) fill expr) Q E ⟨h, g, d, t, os⟩ := fun {A E t tk fill expr Q} hq => by
    have hT := hT t
    have f2 := UF.ga.lookup
    have f3 := UF.ga.bind (.ref a)
    have hx0 : (expr && onTheHeap (Value.builtin "BaseException.__getattribute__")) = false := by cases expr <;> rfl
    repeat (any_goals (first | assumption | wp_step))
    refine call fun k k' => ?_
    repeat (any_goals (first | assumption | exact hq _ _ | wp_step))
  unfold getAttr
  repeat (any_goals (first | assumption | with_reducible apply by_ hq | wp_step))
end
end Mine

/-! U5 -/
namespace Mine
/-- the record, noted -/
structure Lit (base G : Heap) (l : List Env) (e : Nat) (p : Int) (h : Heap) : Prop where
  stays : base.StaysIn h
  frames : h.FunFrames base l
  up : G.UpToSlots h
  record : ∃ t0 enc ob q reason T oT ts, h.get? e = some (uniO t0 (.ref T) enc ob (rawInt q) reason p) ∧ T ≠ e ∧ base.get? T = none ∧ h.get? T = some oT ∧ oT.data = .fields ts ∧ 3 < ts.size
section
variable {M : Model} {A : Around} {E : Value → Shared → Prop} {s : Shared} {base G : Heap} {e : Nat} {p : Int} {l : List Env}
theorem Lit.land {Q : Unit → Shared → Prop} (H : Lit base G l e p s.heap) (h : ∀ h', Lit base G l e p h' → Q () { s with heap := h' }) : wpAny M A (setFlight (.ref e) none) Q E s := by
  obtain ⟨st, fr, up, t0, enc, ob, q, reason, T, oT, ts, he, hTe, hT0, hT, hd, h3⟩ := H
  refine wpAny_setFlight_none he rfl (by rfl) hT hd h3 (h _ ?_)
  have oth : ∀ b, b ≠ T → (s.heap.update T (Obj.mapFields (·.setIfInBounds 3 .none))).get? b = s.heap.get? b := fun b hb => Heap.get?_update_other _ _ hb.symm
  have nf : ∀ b o, s.heap.get? b = some o → (∀ vs, o.data ≠ .fields vs) → b ≠ T := fun b o hb hn z => by
    rw [z, hT] at hb
    cases hb
    exact hn _ hd
  refine ⟨fun b o hb => (oth b fun z => by rw [z, hT0] at hb; cases hb).trans (st b o hb), fr.of_keeps fun b o hb hn => ⟨o, (oth b (nf b o hb hn)).trans hb, rfl⟩, fun b o hb hn => ?_, t0, enc, ob, q, reason, T, _, _, (oth e hTe.symm).trans he, hTe, hT0, Heap.get?_update_self _ hT (Obj.isFreed_of_fields (Obj.data_mapFields hd _)), Obj.data_mapFields hd _, by simpa using h3⟩
  obtain ⟨sl, hs⟩ := up b o hb hn
  exact ⟨sl, (oth b (nf b _ hs hn)).trans hs⟩
theorem uni_noted {env : Env} {outer : List Env} {L : Nat} {h0 : Heap} {Q : Unit → Shared → Prop} (hfr : A.frames = some (env :: outer)) (hf : env.frame = some L) (hl : h0.FunFrames base (env :: outer)) (hkb : base.StaysIn h0) (U : Uni h0 s.heap e p)
    (h : ∀ h', Lit base h0 (env :: outer) e p h' → Q () { s with heap := h' }) : wpAny M A (noteFrame (.ref e) env) Q E s := by
  obtain ⟨t0, enc, ob, q, reason, he⟩ := U.there
  have hen : base.get? e = none := by
    cases z : base.get? e with
    | none => rfl
    | some o => have := hkb e o z; rw [U.new] at this; cases this
  have hl' : s.heap.FunFrames base (env :: outer) := hl.of_keeps fun b o hb hn => ⟨o, U.keeps b o hb, rfl⟩
  unfold noteFrame
  simp only [hf]
  refine wpAny_bind (wpAny_field he rfl (x := .none) (by rfl) ?_)
  rw [if_neg (by decide)]
  refine wpAny_bind (wpAny_frameOf_fun hfr hl' hf fun h₁ hs₁ => ?_)
  refine wpAny_bind (wpAny_entryPlaceOf fun pl hpl => ?_)
  unfold EntryCells.newEntry newFields
  refine wpAny_bind (wpAny_newObj_type ?_ (hpl.sizeOk5 _ _ _ _ _))
  have heF : e ∉ (env :: outer).filterMap (·.frame) := fun hm => by
    obtain ⟨_, o, ho, hnf⟩ := hl.mem hm
    rw [U.new] at ho
    cases ho
  have he₁ : h₁.get? e = _ := (hs₁.2.1 e heF).trans he
  generalize hT : (.fields ([Value.none, .ref L, .none, rawInt L, .none] ++ (if pl.isEmpty then List.replicate 6 Value.none else pl)).toArray : Data) = dT
  have hTd : ∃ ts : Array Value, dT = .fields ts ∧ 3 < ts.size := ⟨_, hT.symm, by simp⟩
  obtain ⟨ts, rfl, hts⟩ := hTd
  have he₂ := Heap.get?_push_of_some (h := h₁) { cls := .type "traceback", dict := none, data := .fields ts } he₁
  refine wpAny_setField he₂ rfl (by simp) (h _ ?_)
  have hTe : h₁.objs.size ≠ e := Nat.ne_of_gt (Heap.lt_size he₁)
  have kb₁ : base.StaysIn h₁ := fun b o hb => (hs₁.2.1 b fun hm => by rw [(hl.mem hm).1] at hb; cases hb).trans (U.keeps b o (hkb b o hb))
  have keep : ∀ b o, b ≠ e → h₁.get? b = some o → ((h₁.push { cls := .type "traceback", dict := none, data := .fields ts }).update e (Obj.mapFields (·.setIfInBounds 1 (Value.ref h₁.objs.size)))).get? b = some o := fun b o hb q =>
    (Heap.get?_update_other _ _ hb.symm).trans (Heap.get?_push_of_some _ q)
  have nf : ∀ b o, h0.get? b = some o → b ≠ e := fun b o hb z => by rw [z, U.new] at hb; cases hb
  refine ⟨fun b o hb => keep b o (nf b o (hkb b o hb)) (kb₁ b o hb), hl.of_keeps fun b o hb hn => ?_, fun b o hb hn => ?_, ?_⟩
  · obtain ⟨sl, hs⟩ := hs₁.2.2 b o (U.keeps b o hb)
    exact ⟨_, keep b _ (nf b o hb) hs, rfl⟩
  · obtain ⟨sl, hs⟩ := hs₁.2.2 b o (U.keeps b o hb)
    exact ⟨sl, keep b _ (nf b o hb) hs⟩
  · refine ⟨.ref t0, enc, ob, q, reason, h₁.objs.size, _, ts, Heap.get?_update_self _ he₂ rfl, hTe, kb₁.fresh, (Heap.get?_update_other _ _ hTe.symm).trans (Heap.get?_push_size _ rfl), rfl, hts⟩
end
end Mine

/-! U6 -/
namespace Mine
theorem hide_fun {base h : Heap} {as : List Addr} : ∀ {l : List Env}, h.FunFrames base l → (∀ env ∈ l, ∀ a, env.frame = some a → a ∈ as) → h.FunFrames (hideAll h as) l := fun a b => funFrames_hide a b
section
variable {c : Cx} {ρ : Loc} {σ : List Cell}
abbrev Cx.all (c : Cx) : List Nat := (c.env :: c.outer).filterMap (·.frame)
theorem Inv.deep {g : Heap} {as : List Nat} {s : Shared} (I : Inv c g as ρ σ s) (O : c.Ok) : s.heap.FunFrames (hideAll s.heap c.all) (c.env :: c.outer) := by
  obtain ⟨B, D, sim, nd, off, m, led, F, N, e, l, t⟩ := I
  exact funFrames_hide (B.push (name := c.qual) (a := c.f) (cd := c.cd) F O.hk).frames fun env he b hb => List.mem_filterMap.mpr ⟨env, he, hb⟩
/-- frames' slots and records have turned, all else stands -/
theorem Inv.turnAll {g : Heap} {as : List Nat} {s : Shared} {h' : Heap} (I : Inv c g as ρ σ s) (hB : (hideAll s.heap c.all).StaysIn h') (up : s.heap.UpToSlots h') : ∃ g', KtsTurn c.fs g g' ∧ ∀ k, Inv c g' as ρ σ { s with heap := h', toks := k } := by
  obtain ⟨B, D, sim, nd, off, m, led, F, N, e, l, t⟩ := I
  obtain ⟨g', T, F', B'⟩ := kts_ground (name := c.qual) (a := c.f) (cd := c.cd) B F (fun b o q hn => hideAll_get _ q hn) hB up
  refine ⟨g', T, fun k => ⟨B', D.turn T, by rw [sim], nd, off, m, led, F', fun q hq => ?_, e, l, t⟩⟩
  have hN := N q hq
  refine ⟨hB _ _ (hideAll_get _ hN.1 fun hm => ?_), hN.2.1, T.none_ _ hN.2.2⟩
  rcases kts_mem (name := c.qual) (a := c.f) (cd := c.cd) hm with z | z
  · exact hN.2.1 z
  · obtain ⟨o, ho, _⟩ := (B.frames.mem z).2
    rw [hN.2.2] at ho
    cases ho
theorem bt_uni : Bt "UnicodeEncodeError" (.ty "UnicodeEncodeError") (.type "UnicodeEncodeError") := ⟨fun w => by k_is, by decide +kernel, .ty _, rep_ty, fun c => Keep.ty, by decide, by decide⟩
theorem intText' {n : Nat} (h : n < 1001) : (PySem.Str.ofString (toString (n : Int))).length ≤ 4 := intText n h
theorem log_lt {p : Nat} (hp : p < 1001) : ((p : Int)).natAbs.log2 < 10 := by
  rw [Int.natAbs_natCast]
  by_cases h0 : p = 0
  · subst h0; decide
  · exact (Nat.log2_lt h0).mpr (Nat.lt_trans hp (by decide))
theorem Ex1.tryUni {nm : Names} {d k : Nat} {tn : Bool} {body : List Stmt} {np p1 p2 p3 p4 p5 p6 p7 hp' pos : Pos} {kk : Nat} {msg : PySem.Str} {p : Nat} (H : Fn c nm d k tn) (htn : c.tn = true) (hp : p < 1001) (hρ : ρ.lookup ("e" : PySem.Str) = none) (hmsg : msg.length ≤ 100)
    (hbody : ∀ g as s Q E, Inv c g as ρ σ s → (∀ g₁ as₁ s₁ h' e k, Tn c g g₁ → Ext as as₁ → Inv c g₁ as₁ ρ σ s₁ → Uni s₁.heap h' e p → E (.ref e) { s₁ with heap := h', toks := k }) → wpAny (model PR c.w) c.A (execs body c.env) Q E s)
    (hx : nm.lookup ("UnicodeEncodeError" : PySem.Str) = some .globalImplicit) (he : nm.lookup ("e" : PySem.Str) = some .local) (hm : nm.lookup ("err_msg" : PySem.Str) = some .local)
    (hs : swapsWith (.JoinedStr [.Constant (.str msg) kk p2, .FormattedValue (.Attribute (.Name "e" p3) "start" p4) (-1) none p5] p6) (some (.Name "err_msg" p1)) p7.line c.env = pure false) :
    Ex1 c ρ σ (.Try body [.ExceptHandler (some (.Name "UnicodeEncodeError" np)) (some "e") [.Assign [.Name "err_msg" p1] (.JoinedStr [.Constant (.str msg) kk p2, .FormattedValue (.Attribute (.Name "e" p3) "start" p4) (-1) none p5] p6) p7] hp'] [] [] pos) (.next (setL "err_msg" (.txt 104) ρ) σ) := by
  intro g as s Q E I K
  have O := H.O
  refine wpAny_Try_except (hbody g as s _ _ I fun g₁ as₁ s₁ h' e k t₁ x₁ I₁ U => ?_)
  refine uni_noted (h0 := s₁.heap) (base := hideAll s₁.heap c.all) (outer := c.outer) (L := c.L) (Around.frames_deeper I₁.B.stack) rfl (I₁.deep O) (fun b o q => of_hideAll _ q) U fun h₂ L₂ => ?_
  refine L₂.land fun h₃ L₃ => ?_
  obtain ⟨g₃, T₃, J₃⟩ := I₁.turnAll L₃.stays L₃.up
  have X₃ := (J₃ k).X O
  have P₃ := (J₃ k).T O
  obtain ⟨m₃, led₃, F₃, N₃⟩ := (J₃ k).fr
  obtain ⟨t0, enc, ob, q, reason, T, oT, ts, hr₃, _⟩ := L₃.record
  refine wpAny_handleBy_builtin_as (X := "UnicodeEncodeError") (T := "UnicodeEncodeError") (b := true) (by rw [isSubtype_type]; kernel_rfl) (isSubtype_of_subB (by decide +kernel)) UF.sub (name_B F₃ X₃ (topRead_of P₃) (bt_uni.hn c.w) bt_uni.hv bt_uni.h1 ⟨rfl, ⟨_, hr₃, rfl⟩, ?_⟩ O.hk (by rw [← hx, ← H.hs]; rfl) bt_uni.h2)
  rw [if_pos rfl]
  refine L₃.land fun h₄ L₄ => ?_
  obtain ⟨g₄, T₄, J₄⟩ := I₁.turnAll L₄.stays L₄.up
  have ne₁ : g₁.get? e = none := by
    obtain ⟨m₁, led₁, F₁, _⟩ := I₁.fr
    cases z : g₁.get? e with
    | none => rfl
    | some o => have := F₁.keep _ _ z; rw [U.new] at this; cases this
  obtain ⟨B, D, sim, nd, off, m, led, F, N, ee, l, t⟩ := J₄ k
  obtain ⟨t0', enc', ob', q', reason', T', oT', ts', hr₄, _⟩ := L₄.record
  have N₄ := News.more F N hr₄ (fun es n z => by cases z) (T₄.none_ _ ne₁)
  refine stN F N₄ (fun h₅ F₅ N₅ => ?_) O.hk (by rw [← he, ← H.hs]; rfl)
  have hr₅ := (N₅ _ (.head _)).1
  refine wpAny_execs_cons (wpAny_Assign_Name (JoinedStr_many ?_) hs)
  refine joinParts_cons (wpAny_Constant_str ⟨by rw [strLen_append, sizeLine_eq]; have : PySem.Str.empty.length = 0 := rfl; omega, ?_⟩)
  refine joinParts_cons (FormattedValue_plain (Attribute_name (ld F₅ (if_pos rfl) ?_ O.hk (by rw [← he, ← H.hs]; rfl))))
  refine start_attr (h := h₅) (g := _) (d := _) (os := _) hr₅ fun k₁ k₂ => ?_
  have hl4 := intText p hp
  have hl1 : ((PySem.Str.empty ++ msg) ++ PySem.Str.ofString (toString (p : Int))).length ≤ 104 := by
    rw [strLen_append, strLen_append]
    have : PySem.Str.empty.length = 0 := rfl
    omega
  refine formatField_int_small (Nat.lt_trans (log_lt hp) (by decide)) ⟨by rw [sizeLine_eq]; omega, ?_⟩
  refine joinParts_nil ?_ (by rw [sizeLine_eq]; omega)
  refine stN F₅ N₅ (fun h₆ F₆ N₆ => ?_) O.hk (by rw [← hm, ← H.hs]; rfl)
  refine wpAny_execs_nil ?_
  refine wpAny_nameGoes_keeps (m := _) (by rw [← he, ← H.hs]; rfl) F₆.ns (by show (c.scope.kind == .class || (c.scope.kind == .module && c.L != mainGlobals)) = false; rw [O.hk]; rfl) fun h₇ v hn₇ hs₇ => ?_
  have F₇ := F₆.set hn₇ hs₇
  have N₇ : News g₄ c.L h₇ (c.fz ++ led) := fun q hq => N₆.set hs₇ q (.tail _ hq)
  have tt : Tn c g g₄ := t₁.trans (.inr ⟨htn, T₄⟩)
  refine K g₄ as₁ _ tt x₁ ⟨B, D, ?_, nd, off, _, led, F₇, N₇, ee, ?_, t⟩
  · rw [sim]
  · intro y u hy
    rw [setL_lookup] at hy
    by_cases hye : y = ("e" : PySem.Str)
    · subst hye
      rw [if_neg (by decide), hρ] at hy
      cases hy
    · by_cases hym : y = ("err_msg" : PySem.Str)
      · subst hym
        rw [if_pos rfl] at hy
        cases hy
        exact ⟨_, (if_neg hye).trans (if_pos rfl), .txt _ _ _ hl1⟩
      · rw [if_neg hym] at hy
        obtain ⟨val, h1, h2⟩ := l y u hy
        exact ⟨val, (if_neg hye).trans ((if_neg hym).trans ((if_neg hye).trans h1)), h2⟩
end
end Mine

/-! U7 -/
namespace Mine
section
variable {c : Cx} {ρ : Loc} {σ σ₁ : List Cell}
theorem call_bad {a b : List UInt8} {g : Heap} {as : List Nat} {s : Shared} {t u : Tok} {Q E : Value → Shared → Prop} (O : c.Ok) (I : Inv c g as ρ σ s) (ha : Asc a) (h0 : a ≠ []) (hz : a.length + 1 + b.length ≤ 1000)
    (h : ∀ h' e k, Uni s.heap h' e a.length → E (.ref e) { s with heap := h', toks := k }) :
    wpAny (model PR c.w) c.A (PySem.call (.builtin "str.encode") [.str (uni a b) t, .str "ascii" u] []) Q E s := by
  refine wpAny_call_entry BF.slot_encode (typeIs_str _ _ _) BF.entry_encode ?_ (BF.args_encode _ _)
  rw [enc_entry, enc_road]
  exact wpAny_bind (wpAny_bind (enc_bad O.hh ha h0 (by omega) h))
end
theorem uni_len (a b : List UInt8) : (uni a b).length = a.length + 1 + b.length := uni_length a b
theorem f_ascii_bad (a b : List UInt8) (ha : Asc a) (h0 : a ≠ []) (hz : a.length + 1 + b.length ≤ 1000) : FunOk 145 0 true [.str (uni a b)] [] [] [] (.error 37) := by
  refine FunOk.of (ρ₀ := [("v", .str (uni a b))]) (out := .exc true 37 []) (fun P => by k_is) (fun P => by k_is) (fun P s as₀ xs ys X r1 r2 => ?_) rfl (by simp only [List.map]; decide) rfl rfl rfl (by decide) rfl (fun c O hs hdd htn hk => ?_)
  · cases r1 with
    | cons ra r1 =>
    cases r1; cases r2
    exact ⟨_, BindsTo.of_eq rfl, .cons ra .nil⟩
  have H : Fn c _ _ _ _ := ⟨O, by rw [hs], hdd, hk, htn⟩
  refine Ex.next (Ex1.tryUni (p := a.length) H htn (by omega) (by rfl) (by decide) (fun g as s Q E I h => ?_) rfl rfl rfl (by rfl)) ?_
  · refine wpAny_execs_cons (wpAny_Return_some (methodCall_KW ((Ev.loc H).val I fun g₁ as₁ s₁ y t₁ x₁ I₁ ra => ?_) (by rfl)))
    refine Meth.encode _ g₁ as₁ s₁ y _ _ E I₁ ra ?_
    cases ra with
    | str _ t =>
    refine call_with (first := [.str (uni a b) t]) O Keep.bi (Evs.cons Ev.cstr Evs.nil) Kws.nil I₁ (fun g₂ as₂ s₂ xs ys t₂ x₂ I₂ r₂ q₂ => ?_)
    cases r₂ with
    | cons rb r₂ =>
    cases r₂; cases q₂; cases rb with
    | str _ u =>
    exact call_bad O I₂ ha h0 hz fun h' e k U => h g₂ as₂ s₂ h' e k (t₁.trans t₂) (x₁.trans x₂) I₂ U
  · exact Ex.exc (Ex1.raiseV H (Ev.loc H))
theorem f_decode_bad (a b : List UInt8) (ha : Asc a) (h0 : a ≠ []) (hz : a.length + 1 + b.length ≤ 1000) : FunOk 152 4 true [.str (uni a b), .none] ["quote_checksum"] [.bool true] [] (.error 37) := by
  refine FunOk.of (ρ₀ := [("v", .str (uni a b)), ("out_size", .none), ("quote_checksum", .bool true)]) (out := .exc false 37 []) (fun P => by k_is) (fun P => by k_is) (fun P s as₀ xs ys X r1 r2 => ?_) rfl (by simp only [List.map]; decide) rfl rfl rfl (by decide) rfl (fun c O hs hdd htn hk => ?_)
  · cases r1 with
    | cons ra r1 =>
    cases r1 with
    | cons rb r1 =>
    cases r1; cases r2 with
    | cons rc r2 =>
    cases r2
    exact ⟨_, BindsTo.of_eq rfl, .cons ra (.cons rb (.cons (rc.ext ⟨as₀, rfl⟩) .nil))⟩
  have H : Fn c _ _ _ _ := ⟨O, by rw [hs], hdd, hk, htn⟩
  exact Ex.exc (Ex1.ifT (Tst.of (Ev.bc H bt_isinstance (Evs.cons (Ev.loc H) (Evs.cons (Ev.bt H bt_str) Evs.nil)) Kws.nil (Cl.isi Ans.strT)) Tru.bool)
    (Ex.exc (Ex1.assignX (Ev.fc H gf_ascii_bytes (Evs.cons (Ev.loc H) Evs.nil) Kws.nil (Cl.fun0 (f_ascii_bad a b ha h0 hz) H.O (by rw [H.hd]; decide) (fun _ => htn) rfl rfl)))))
theorem f_decode1_bad (a b : List UInt8) (ha : Asc a) (h0 : a ≠ []) (hz : a.length + 1 + b.length ≤ 1000) : FunOk 138 5 true [.str (uni a b)] [] [] [] (.error 37) := by
  refine FunOk.of (ρ₀ := [("v", .str (uni a b)), ("out_size", .none)]) (out := .exc false 37 []) (fun P => by k_is) (fun P => by k_is) (fun P s as₀ xs ys X r1 r2 => ?_) rfl (by simp only [List.map]; decide) rfl rfl rfl (by decide) rfl (fun c O hs hdd htn hk => ?_)
  · cases r1 with
    | cons ra r1 =>
    cases r1; cases r2
    exact ⟨_, binds_K (K := hd.heap_39 P) X rfl (by k_is) rfl rfl rfl, .cons ra (.cons .none .nil)⟩
  have H : Fn c _ _ _ _ := ⟨O, by rw [hs], hdd, hk, htn⟩
  exact Ex.exc (Ex1.retX (Ev.fc H gf_decode_ (Evs.cons (Ev.loc H) (Evs.cons (Ev.loc H) Evs.nil)) (Kws.cons Ev.cbool Kws.nil) (Cl.fun0 (f_decode_bad a b ha h0 hz) H.O (by rw [H.hd]; decide) (fun _ => htn) rfl rfl)))
theorem f_law_told_bad (a b : List UInt8) (ha : Asc a) (h0 : a ≠ []) (hz : a.length + 1 + b.length ≤ 1000) : FunOk 173 6 true [.str (uni a b)] [] [] [] (.ok .none) := by
  refine FunOk.of (ρ₀ := [("text", .str (uni a b))]) (out := .ret .none []) (fun P => by k_is) (fun P => by k_is) (fun P s as₀ xs ys X r1 r2 => ?_) rfl (by simp only [List.map]; decide) rfl rfl rfl (by decide) rfl (fun c O hs hdd htn hk => ?_)
  · cases r1 with
    | cons ra r1 =>
    cases r1; cases r2
    exact ⟨_, BindsTo.of_eq rfl, .cons ra .nil⟩
  have H : Fn c _ _ _ _ := ⟨O, by rw [hs], hdd, hk, htn⟩
  exact Ex.ret (Ex1.tryCaught (cst := .none) H.O htn (Ex.exc (Ex1.retX (Ev.fc H gf_decode (Evs.cons (Ev.loc H) Evs.nil) Kws.nil (Cl.fun0 (f_decode1_bad a b ha h0 hz) H.O (by rw [H.hd]; decide) (fun _ => htn) rfl rfl)))) (by k_is) (by kts_isx) (by rw [H.hs]; rfl) (.inl rfl))
end Mine

/-! P20 -/
namespace Mine
def manyL : List Nat := [78, 79, 100, 60, 82, 1, 0, 32]
theorem many_get : ∀ r : Nat, r < 8 → ([.int 78, .int 79, .int 100, .int 60, .int 82, .int 1, .int 0, .int 32] : List V)[r]? = some (.int ((manyL.getD r 0 : Nat) : Int))
  | 0, _ => rfl
  | 1, _ => rfl
  | 2, _ => rfl
  | 3, _ => rfl
  | 4, _ => rfl
  | 5, _ => rfl
  | 6, _ => rfl
  | 7, _ => rfl
  | n + 8, h => by omega
theorem many_le : ∀ r : Nat, r < 8 → manyL.getD r 0 ≤ 100 := by decide
theorem fmod_nat' (a : Int) (b : Nat) (h : 0 < b) : ∃ r : Nat, r < b ∧ a.fmod b = r := by
  have h1 := Int.fmod_nonneg_of_pos a (b := b) (by omega)
  have h2 := Int.fmod_lt_of_pos a (b := b) (by omega)
  exact ⟨(a.fmod b).toNat, by omega, by omega⟩
def drB (kd r8 r256 : Nat) : List UInt8 :=
  let h := hashB [((r256 : Int)).toNat.toUInt8, ((kd : Int)).toNat.toUInt8]
  sl (h ++ h ++ h ++ h) none (some ((manyL.getD r8 0 : Nat) : Int))
def valP (m1 m2 m3 : Nat) : Nat := (1 + m1) * 58 ^ (30 + m2) + (1 + m3) * 58 ^ 8
def payB (kd r8 r256 a92 a40 m1 m2 m3 : Nat) : List UInt8 := match kd with
  | 0 => drB 0 r8 r256
  | 1 => List.replicate a92 0 ++ sl (drB 1 r8 r256) none (some (a40 : Int))
  | 2 => lstripB [0] (beB (nby (valP m1 m2 m3)) (valP m1 m2 m3 / 2 ^ 32))
  | 3 => List.replicate (manyL.getD r8 0) 0
  | _ => List.replicate (manyL.getD r8 0) 255
theorem valP_lt {m1 m2 m3 : Nat} (h1 : m1 < 1000) (h2 : m2 < 60) (h3 : m3 < 57) : valP m1 m2 m3 < 2 ^ 560 := by
  have a : (1 + m1) * 58 ^ (30 + m2) ≤ 1000 * 58 ^ 89 := Nat.mul_le_mul (by omega) (Nat.pow_le_pow_right (by decide) (by omega))
  have b : (1 + m3) * 58 ^ 8 ≤ 57 * 58 ^ 8 := Nat.mul_le_mul_right _ (by omega)
  have c : 1000 * 58 ^ 89 + 57 * 58 ^ 8 < 2 ^ 560 := by decide +kernel
  unfold valP
  omega
theorem nby_valP {m1 m2 m3 : Nat} (h1 : m1 < 1000) (h2 : m2 < 60) (h3 : m3 < 57) : nby (valP m1 m2 m3) ≤ 70 := by
  have := bits_le (valP_lt h1 h2 h3)
  unfold nby
  omega
theorem sl_take {α : Type} (b : List α) (n : Nat) : (sl b none (some (n : Int))).length ≤ n := by
  unfold sl
  simp only [Option.elim]
  have : clipAt b.length (n : Int) ≤ n := by unfold clipAt; split <;> omega
  rw [List.length_take]
  omega
theorem pay_le {kd r8 r256 a92 a40 m1 m2 m3 : Nat} (h8 : r8 < 8) (h92 : a92 < 92) (h40 : a40 < 40) (h1 : m1 < 1000) (h2 : m2 < 60) (h3 : m3 < 57) : (payB kd r8 r256 a92 a40 m1 m2 m3).length ≤ 150 := by
  have hm := many_le r8 h8
  have hd : ∀ k, (drB k r8 r256).length ≤ 100 := fun k => Nat.le_trans (sl_take _ _) hm
  unfold payB
  split
  · have := hd 0; omega
  · have := sl_take (drB 1 r8 r256) a40
    rw [List.length_append, List.length_replicate]
    omega
  · have := dropWhile_le (fun c => ([0] : List UInt8).contains c) (beB (nby (valP m1 m2 m3)) (valP m1 m2 m3 / 2 ^ 32))
    have h := nby_valP h1 h2 h3
    rw [beB_length] at this
    show (lstripB _ _).length ≤ _
    unfold lstripB
    omega
  · rw [List.length_replicate]; omega
  · rw [List.length_replicate]; omega
end Mine

/-! P21 -/
namespace Mine
theorem fmodZ (a : Int) (b : Nat) (z : Int) (hz : z = (b : Int)) (h : 0 < b) : ∃ r : Nat, r < b ∧ a.fmod z = r := by subst hz; exact fmod_nat' a b h
section
variable {c : Cx} {ρ : Loc} {nm : Names} {d k : Nat} {tn : Bool}
theorem Ex1.pick {x : PySem.Str} {px lp pos pos' : Pos} {es : List PySem.Expr} {ie : PySem.Expr} {vs : List V} {u : V} {r : Nat} (H : Fn c nm d k tn) (he : Evs c ρ [] lp es vs []) (hz : vs.length ≤ 1000) (hi : Ev c ρ ([] ++ [.list vs]) ie (.val (.int r) ([] ++ [.list vs]))) (hr : r < 1000000) (hu : vs[r]? = some u)
    (hρ : (setL x u ρ).all (fun p => p.2.low 0) = true) (hl : nm.lookup x = some .local) (hs : swapsWith (.Subscript (.List es lp) ie pos') (some (.Name x px)) pos.line c.env = pure false) (hq : ∀ o x, subscripted ie false o x = operate [o, x] (getItem o x)) :
    Ex1 c ρ [] (.Assign [.Name x px] (.Subscript (.List es lp) ie pos') pos) (.next (setL x u ρ) []) :=
  Ex1.setD (σ₁ := []) (tl := [.list vs]) H (Ev.itemT (Ev.list he hz) hi (LS.cell (vs := vs) rfl) (Int.natCast_nonneg _) (Int.ofNat_lt.mpr hr) (by rw [Int.toNat_natCast]; exact hu) hq) (Nat.le_refl _) hρ rfl hl hs
end
theorem f_payload (n : Int) : ∃ p : List UInt8, p.length ≤ 150 ∧ FunOk 194 4 false [.int n] [] [] [] (.ok (.bytes p)) := by
  obtain ⟨kd, hk5, ekd⟩ := fmodZ n 5 5 rfl (by decide)
  obtain ⟨M, hM⟩ : ∃ M, M = n.fdiv 5 := ⟨_, rfl⟩
  obtain ⟨r8, h8, e8⟩ := fmodZ M 8 8 rfl (by decide)
  obtain ⟨r256, h256, e256⟩ := fmodZ M 256 256 rfl (by decide)
  obtain ⟨a92, h92, e92⟩ := fmodZ (M.fdiv 8) 92 92 rfl (by decide)
  obtain ⟨a40, h40, e40⟩ := fmodZ (M.fdiv 700) 40 40 rfl (by decide)
  obtain ⟨m1, h1, e1⟩ := fmodZ M 1000 1000 rfl (by decide)
  obtain ⟨m2, h2, e2⟩ := fmodZ (M.fdiv 8) 60 60 rfl (by decide)
  obtain ⟨m3, h3, e3⟩ := fmodZ (M.fdiv 8000) 57 57 rfl (by decide)
  refine ⟨payB kd r8 r256 a92 a40 m1 m2 m3, pay_le h8 h92 h40 h1 h2 h3, ?_⟩
  refine FunOk.of (ρ₀ := [("number", .int n)]) (out := .ret (.bytes (payB kd r8 r256 a92 a40 m1 m2 m3)) []) (fun P => by k_is) (fun P => by k_is) (fun P s as₀ xs ys X r1 r2 => ?_) rfl (by simp only [List.map]; decide) rfl rfl rfl (by decide) rfl (fun c O hs hdd htn hk => ?_)
  · cases r1 with
    | cons ra r1 =>
    cases r1; cases r2
    exact ⟨_, BindsTo.of_eq rfl, .cons ra .nil⟩
  have H : Fn c _ _ _ _ := ⟨O, by rw [hs], hdd, hk, htn⟩
  have hman := many_le r8 h8
  refine Ex.next (Ex1.set2s (v := .int kd) (u := .int M) H (Ev.tuple (Evs.cons (Ev.eq (Ev.bin (Ev.loc H) Ev.cint (Op2.fmod (by decide))) (congrArg V.int ekd)) (Evs.cons (Ev.eq (Ev.bin (Ev.loc H) Ev.cint (Op2.fdiv (by decide) (by decide))) (congrArg V.int hM.symm)) Evs.nil)) (by simp)) rfl rfl (hw := by show swappedStores _ _ (envOf c.qual c.scope c.L c.f c.cd) = _; rw [hs]; with_unfolding_all rfl)) ?_
  generalize hes : (PySem.Expr.Constant (PySem.Const.int 78) _ _ :: _) = es
  have hev : ∀ {ρ pos}, Evs c ρ [] pos es [.int 78, .int 79, .int 100, .int 60, .int 82, .int 1, .int 0, .int 32] [] := fun {ρ pos} => by
    rw [← hes]
    exact Evs.cons Ev.cint (Evs.cons Ev.cint (Evs.cons Ev.cint (Evs.cons Ev.cint (Evs.cons Ev.cint (Evs.cons Ev.cint (Evs.cons Ev.cint (Evs.cons Ev.cint Evs.nil)))))))
  refine Ex.next (Ex1.pick (r := r8) H hev (Nat.le_of_ble_eq_true rfl) (Ev.eq (Ev.bin (Ev.loc H) Ev.cint (Op2.fmod (by decide))) (congrArg V.int e8)) (by omega) (many_get r8 h8) rfl rfl (by rfl) (by intro _ _; rfl)) ?_
  clear hev hes
  refine Ex.next (ρ' := [("number", .int n), ("more", .int M), ("kind", .int kd), ("many", .int (manyL.getD r8 0 : Nat)), ("drawn", .bytes (drB kd r8 r256))]) (σ₁ := [])
    (Ex1.setD (v := .bytes (drB kd r8 r256)) (σ₁ := []) (tl := [.list [.int (r256 : Int), .int (kd : Int)]]) H (Ev.sliceB (Ev.bin (Ev.fc H gf_hash256 (Evs.cons (Ev.bc H bt_bytes (Evs.cons (Ev.list (Evs.cons (Ev.eq (Ev.bin (Ev.loc H) Ev.cint (Op2.fmod (by decide))) (congrArg V.int e256)) (Evs.cons (Ev.loc H) Evs.nil)) (Nat.le_of_ble_eq_true rfl)) Evs.nil) Kws.nil
      (Cl.bytesL (ns := [(r256 : Int), (kd : Int)]) rfl (fun x hx => by
        rcases List.mem_cons.mp hx with rfl | hx
        · omega
        · rw [List.mem_singleton.mp hx]; omega) (Nat.le_of_ble_eq_true rfl) H.O)) Evs.nil) Kws.nil (Cl.fun0 (f_hash256 _ (Nat.le_of_ble_eq_true rfl)) H.O (by rw [H.hd]; decide) noTn rfl rfl)) Ev.cint (Op2.mulB4 (by intro h; have := congrArg List.length h; rw [hashB_length] at this; cases this) (by rw [hashB_length]; decide))) Part.none (Part.some (Ev.loc H)) (by simp [hashB_length])) (Nat.le_of_ble_eq_true rfl) rfl rfl) ?_
  have hk' : kd = 0 ∨ kd = 1 ∨ kd = 2 ∨ kd = 3 ∨ kd = 4 := by clear ekd hM e8 e256 e92 e40 e1 e2 e3; omega
  have hdl : ∀ k, (drB k r8 r256).length ≤ 100 := fun k => Nat.le_trans (sl_take _ _) hman
  clear ekd hk5
  rcases hk' with rfl | rfl | rfl | rfl | rfl
  · exact Ex.ret (Ex1.ifT (Tst.cmp (Ev.loc H) Ev.cint (Op2.eqI' rfl)) (Ex.ret (Ex1.ret (Ev.loc H))))
  · refine Ex.next (Ex1.ifF (Tst.cmp (Ev.loc H) Ev.cint (Op2.eqI' rfl)) Ex.nil) ?_
    have hsz : (List.replicate a92 (0 : UInt8)).length + (sl (drB 1 r8 r256) none (some (a40 : Int))).length ≤ 16777216 := by
      have := sl_take (drB 1 r8 r256) a40
      rw [List.length_replicate]
      omega
    exact Ex.ret (Ex1.ifT (Tst.cmp (Ev.loc H) Ev.cint (Op2.eqI' rfl)) (Ex.ret (Ex1.ret (Ev.bin (σ₁ := []) (v := .bytes (List.replicate a92 0)) (u := .bytes (sl (drB 1 r8 r256) none (some (a40 : Int))))
      (Ev.bc H bt_bytes (Evs.cons (Ev.eq (Ev.bin (Ev.bin (Ev.loc H) Ev.cint (Op2.fdiv (by decide) (by decide))) Ev.cint (Op2.fmod (by decide))) (congrArg V.int e92)) Evs.nil) Kws.nil (Cl.bytesI (by omega)))
      (Ev.sliceB (Ev.loc H) Part.none (Part.some (Ev.eq (Ev.bin (Ev.bin (Ev.loc H) Ev.cint (Op2.fdiv (by decide) (by decide))) Ev.cint (Op2.fmod (by decide))) (congrArg V.int e40))) (Nat.le_trans (hdl 1) (by decide)))
      (Op2.addB hsz)))))
  · refine Ex.next (Ex1.ifF (Tst.cmp (Ev.loc H) Ev.cint (Op2.eqI' rfl)) Ex.nil) ?_
    refine Ex.next (Ex1.ifF (Tst.cmp (Ev.loc H) Ev.cint (Op2.eqI' rfl)) Ex.nil) ?_
    have hp2 : 58 ^ (30 + m2) < 2 ^ 540 := Nat.lt_of_le_of_lt (Nat.pow_le_pow_right (by decide) (by omega : 30 + m2 ≤ 89)) (by decide +kernel)
    have hnb := nby_valP h1 h2 h3
    have hlt : valP m1 m2 m3 / 2 ^ 32 < 256 ^ nby (valP m1 m2 m3) := Nat.lt_of_le_of_lt (Nat.div_le_self _ _) (lt_nby _)
    have e7 : Int.fdiv ((Builtin.Int.intBits (valP m1 m2 m3 : Int) : Int) + 7) 8 = (nby (valP m1 m2 m3) : Int) := by
      have := fdiv_nat (Builtin.Int.intBits (valP m1 m2 m3 : Int) + 7) 8
      push_cast at this
      exact this
    refine Ex.ret (Ex1.ifT (Tst.cmp (Ev.loc H) Ev.cint (Op2.eqI' rfl)) ?_)
    refine Ex.next (ρ' := [("number", .int n), ("more", .int M), ("kind", .int (2 : Nat)), ("many", .int (manyL.getD r8 0 : Nat)), ("drawn", .bytes (drB 2 r8 r256)), ("value", .int (valP m1 m2 m3 : Nat))]) (σ₁ := [])
      (Ex1.set (v := .int (valP m1 m2 m3 : Nat)) H (Ev.bin (Ev.bin (Ev.bin Ev.cint (Ev.eq (Ev.bin (Ev.loc H) Ev.cint (Op2.fmod (by decide))) (congrArg V.int e1)) (Op2.addN (a := 1) (b := m1)))
        (Ev.bin Ev.cint (Ev.bin Ev.cint (Ev.eq (Ev.bin (Ev.bin (Ev.loc H) Ev.cint (Op2.fdiv (by decide) (by decide))) Ev.cint (Op2.fmod (by decide))) (congrArg V.int e2)) (Op2.addN (a := 30) (b := m2))) (Op2.powN (a := 58) (n := 30 + m2) (by omega) (by decide)))
        (Op2.mulN (a := 1 + m1) (b := 58 ^ (30 + m2)) (n := 10) (m := 540) (by omega) hp2 (by decide)))
        (Ev.bin (Ev.bin Ev.cint (Ev.eq (Ev.bin (Ev.bin (Ev.loc H) Ev.cint (Op2.fdiv (by decide) (by decide))) Ev.cint (Op2.fmod (by decide))) (congrArg V.int e3)) (Op2.addN (a := 1) (b := m3)))
        (Ev.bin Ev.cint Ev.cint (Op2.powN (a := 58) (n := 8) (by decide) (by decide)))
        (Op2.mulN (a := 1 + m3) (b := 58 ^ 8) (n := 10) (m := 60) (by omega) (by decide) (by decide)))
        (Op2.addN (a := (1 + m1) * 58 ^ (30 + m2)) (b := (1 + m3) * 58 ^ 8)))) ?_
    obtain ⟨T, hT⟩ : ∃ T : Nat, 2 ^ 32 = T := ⟨_, rfl⟩
    have hT0 : T ≠ 0 := by rw [← hT]; decide
    have hTl : T.log2 < 9000 := by rw [← hT]; decide +kernel
    have hfin : payB 2 r8 r256 a92 a40 m1 m2 m3 = lstripB [0] (beB (nby (valP m1 m2 m3)) (valP m1 m2 m3 / T)) := by rw [← hT]; rfl
    rw [hT] at hlt
    rw [hfin]
    generalize valP m1 m2 m3 = W at hlt e7 hnb ⊢
    exact Ex.ret (Ex1.ret (Ev.meth H.O (Ev.meth H.O (Ev.bin (Ev.loc H) (Ev.eq (Ev.bin Ev.cint Ev.cint (Op2.powN (a := 2) (n := 32) (by decide) (by decide))) (congrArg (fun x : Nat => V.int (x : Int)) hT)) (Op2.fdivN (a := W) (b := T) hT0 hTl)) Meth.to_bytes
      (Evs.cons (Ev.eq (Ev.bin (Ev.bin (Ev.meth0 H.O (Ev.loc H) Meth.bit_length Cl.bit_length) Ev.cint Op2.add) Ev.cint (Op2.fdiv (by decide) (by decide))) (congrArg V.int e7)) (Evs.cons Ev.cstr Evs.nil)) Kws.nil (Cl.to_bytes (x := W / T) (k := nby W) (by omega) hlt))
      Meth.lstrip (Evs.cons Ev.cbytes Evs.nil) Kws.nil (Cl.lstrip (by rw [beB_length]; omega))))
  · refine Ex.next (Ex1.ifF (Tst.cmp (Ev.loc H) Ev.cint (Op2.eqI' rfl)) Ex.nil) ?_
    refine Ex.next (Ex1.ifF (Tst.cmp (Ev.loc H) Ev.cint (Op2.eqI' rfl)) Ex.nil) ?_
    refine Ex.next (Ex1.ifF (Tst.cmp (Ev.loc H) Ev.cint (Op2.eqI' rfl)) Ex.nil) ?_
    exact Ex.ret (Ex1.ifT (Tst.cmp (Ev.loc H) Ev.cint (Op2.eqI' rfl)) (Ex.ret (Ex1.ret (Ev.bc H bt_bytes (Evs.cons (Ev.loc H) Evs.nil) Kws.nil (Cl.bytesI (by omega))))))
  · refine Ex.next (Ex1.ifF (Tst.cmp (Ev.loc H) Ev.cint (Op2.eqI' rfl)) Ex.nil) ?_
    refine Ex.next (Ex1.ifF (Tst.cmp (Ev.loc H) Ev.cint (Op2.eqI' rfl)) Ex.nil) ?_
    refine Ex.next (Ex1.ifF (Tst.cmp (Ev.loc H) Ev.cint (Op2.eqI' rfl)) Ex.nil) ?_
    refine Ex.next (Ex1.ifF (Tst.cmp (Ev.loc H) Ev.cint (Op2.eqI' rfl)) Ex.nil) ?_
    exact Ex.ret (Ex1.ret (Ev.eq (Ev.bin Ev.cbytes (Ev.loc H) (Op2.mulB1 (n := ((manyL.getD r8 0 : Nat) : Int)) (by omega) (by omega))) (by rw [Int.toNat_natCast]; rfl)))
end Mine

/-! P22 -/
namespace Mine
def odd8 : List UInt8 := [48, 79, 73, 108, 32, 43, 45, 47]
def cutL (t : List UInt8) (k : Nat) : List UInt8 := sl t none (some (k : Int))
def cutR (t : List UInt8) (k : Nat) : List UInt8 := sl t (some ((k : Int) + 1)) none
def oneB (x : UInt8) : List UInt8 := [(((x.toNat : Int))).toNat.toUInt8]
def turnB (kd k s58 s8 e58 : Nat) (t : List UInt8) : List UInt8 := match kd with
  | 0 => cutL t k ++ oneB (alpha.getD s58 0) ++ cutR t k
  | 1 => cutL t k ++ oneB (odd8.getD s8 0) ++ cutR t k
  | 2 => [49] ++ t
  | 3 => cutL t k ++ cutR t k
  | _ => t ++ oneB (alpha.getD e58 0)
theorem cut_len (t : List UInt8) (k : Nat) : (cutL t k).length ≤ t.length ∧ (cutR t k).length ≤ t.length := ⟨sl_le _ _ _, sl_le _ _ _⟩
theorem turn_len (kd k s58 s8 e58 : Nat) (t : List UInt8) : (turnB kd k s58 s8 e58 t).length ≤ 2 * t.length + 1 := by
  have h := cut_len t k
  unfold turnB
  split <;> simp only [List.length_append, oneB, List.length_cons, List.length_nil] <;> omega
section
variable {c : Cx} {ρ : Loc} {nm : Names} {d k : Nat} {tn : Bool}
theorem Inv.noLoc {σ : List Cell} {g : Heap} {as : List Nat} {s : Shared} (I : Inv c g as ρ σ s) : Inv c g as [] σ s := by
  obtain ⟨B, D, sim, nd, off, m, led, F, N, e, l, t⟩ := I
  exact ⟨B, D, sim, nd, off, m, led, F, N, e, (fun y v hv => by simp at hv), t⟩
theorem Ex1.dropRet {st : Stmt} {v : V} {σ σ₁ tl : List Cell} (h : Ex1 c ρ σ st (.ret v (σ₁ ++ tl))) (hl : σ.length ≤ σ₁.length) (hv : v.low σ₁.length = true) (hσ : σ₁.all (Cell.low σ₁.length) = true) : Ex1 c ρ σ st (.ret v σ₁) :=
  fun g as s Q E I K => h g as s Q E I fun g' as' ρ' s' x t xx I' r => by
    obtain ⟨as₂, q, rfl, hlen, J⟩ := I'.noLoc.cut (by rfl) hσ
    exact K g' as₂ [] s' x t (ext_of_cut xx rfl (by rw [hlen, I.len]; exact hl)) J (r.cut (by rw [hlen]; exact hv))
end
theorem oneB_len (x : UInt8) : (oneB x).length = 1 := rfl
theorem f_turned (n : Int) (t : List UInt8) (h0 : 0 < t.length) (hz : t.length ≤ 1000) : ∃ u : List UInt8, u.length ≤ 2 * t.length + 1 ∧ FunOk 201 0 false [.int n, .bytes t] [] [] [] (.ok (.bytes u)) := by
  obtain ⟨kd, hk5, ekd⟩ := fmodZ n 5 5 rfl (by decide)
  obtain ⟨M, hM⟩ : ∃ M, M = n.fdiv 5 := ⟨_, rfl⟩
  obtain ⟨kk, hkk, ekk⟩ := fmodZ M t.length t.length rfl h0
  obtain ⟨s58, h58, e58⟩ := fmodZ (M.fdiv 200) 58 58 rfl (by decide)
  obtain ⟨s8, h8, e8⟩ := fmodZ (M.fdiv 200) 8 8 rfl (by decide)
  obtain ⟨t58, g58, f58⟩ := fmodZ M 58 58 rfl (by decide)
  refine ⟨turnB kd kk s58 s8 t58 t, turn_len _ _ _ _ _ _, ?_⟩
  have hcut := cut_len t kk
  refine FunOk.of (ρ₀ := [("number", .int n), ("text", .bytes t)]) (out := .ret (.bytes (turnB kd kk s58 s8 t58 t)) []) (fun P => by k_is) (fun P => by k_is) (fun P s as₀ xs ys X r1 r2 => ?_) rfl (by simp only [List.map]; decide) rfl rfl rfl (by decide) rfl (fun c O hs hdd htn hk => ?_)
  · cases r1 with
    | cons ra r1 =>
    cases r1 with
    | cons rb r1 =>
    cases r1; cases r2
    exact ⟨_, BindsTo.of_eq rfl, .cons ra (.cons rb .nil)⟩
  have H : Fn c _ _ _ _ := ⟨O, by rw [hs], hdd, hk, htn⟩
  refine Ex.next (Ex1.set2s (v := .int kd) (u := .int M) H (Ev.tuple (Evs.cons (Ev.eq (Ev.bin (Ev.loc H) Ev.cint (Op2.fmod (by decide))) (congrArg V.int ekd)) (Evs.cons (Ev.eq (Ev.bin (Ev.loc H) Ev.cint (Op2.fdiv (by decide) (by decide))) (congrArg V.int hM.symm)) Evs.nil)) (by simp)) rfl rfl (hw := by show swappedStores _ _ (envOf c.qual c.scope c.L c.f c.cd) = _; rw [hs]; with_unfolding_all rfl)) ?_
  refine Ex.next (ρ' := [("number", .int n), ("text", .bytes t), ("more", .int M), ("kind", .int kd), ("k", .int kk)]) (σ₁ := []) (Ex1.set H (Ev.eq (Ev.bin (Ev.loc H) (Ev.bc H bt_len (Evs.cons (Ev.loc H) Evs.nil) Kws.nil (Cl.lenB (by omega))) (Op2.fmod (by omega))) (congrArg V.int ekk))) ?_
  have hk' : kd = 0 ∨ kd = 1 ∨ kd = 2 ∨ kd = 3 ∨ kd = 4 := by clear ekd hM ekk e58 e8 f58; omega
  have hev : ∀ x : UInt8, ∀ y ∈ [((x.toNat : Int))], 0 ≤ y ∧ y < 256 := fun x y hy => by
    have := x.toNat_lt
    rw [List.mem_singleton.mp hy]
    omega
  clear ekd hk5
  rcases hk' with rfl | rfl | rfl | rfl | rfl
  · refine Ex.ret (Ex1.ifT (Tst.cmp (Ev.loc H) Ev.cint (Op2.eqI' rfl)) (Ex.ret (Ex1.dropRet (σ₁ := []) (tl := [.list [.int ((alpha.getD s58 0).toNat : Int)]]) (Ex1.ret (Ev.bin (Ev.bin (v := .bytes (cutL t kk)) (u := .bytes (oneB (alpha.getD s58 0))) (Ev.sliceB (Ev.loc H) Part.none (Part.some (Ev.loc H)) (by omega)) (Ev.bc H bt_bytes (Evs.cons (Ev.list (Evs.cons (Ev.itemB (i := (s58 : Int)) (Ev.con H gc_signs) (Ev.eq (Ev.bin (Ev.bin (Ev.loc H) Ev.cint (Op2.fdiv (by decide) (by decide))) Ev.cint (Op2.fmod (by decide))) (congrArg V.int e58)) (by decide) (by omega) (by rw [alpha_length]; omega)) Evs.nil) (Nat.le_of_ble_eq_true rfl)) Evs.nil) Kws.nil
      (Cl.bytesL (ns := [((alpha.getD s58 0).toNat : Int)]) rfl (hev _) (Nat.le_of_ble_eq_true rfl) H.O)) (Op2.addB (by rw [oneB_len]; omega))) (Ev.sliceB (u := none) (l := some ((kk : Int) + 1)) (Ev.loc H) (Part.some (Ev.bin (Ev.loc H) Ev.cint Op2.add)) Part.none (by omega)) (Op2.addB (by rw [List.length_append, oneB_len]; show _ + (cutR t kk).length ≤ _; omega)))) (Nat.le_refl _) rfl rfl)))
  · refine Ex.next (Ex1.ifF (Tst.cmp (Ev.loc H) Ev.cint (Op2.eqI' rfl)) Ex.nil) ?_
    refine Ex.ret (Ex1.ifT (Tst.cmp (Ev.loc H) Ev.cint (Op2.eqI' rfl)) (Ex.ret (Ex1.dropRet (σ₁ := []) (tl := [.list [.int ((odd8.getD s8 0).toNat : Int)]]) (Ex1.ret (Ev.bin (Ev.bin (v := .bytes (cutL t kk)) (u := .bytes (oneB (odd8.getD s8 0))) (Ev.sliceB (Ev.loc H) Part.none (Part.some (Ev.loc H)) (by omega)) (Ev.bc H bt_bytes (Evs.cons (Ev.list (Evs.cons (Ev.itemB (b := odd8) (i := (s8 : Int)) Ev.cbytes (Ev.eq (Ev.bin (Ev.bin (Ev.loc H) Ev.cint (Op2.fdiv (by decide) (by decide))) Ev.cint (Op2.fmod (by decide))) (congrArg V.int e8)) (by decide) (by omega) (by show (s8 : Int) < 8; omega)) Evs.nil) (Nat.le_of_ble_eq_true rfl)) Evs.nil) Kws.nil
      (Cl.bytesL (ns := [((odd8.getD s8 0).toNat : Int)]) rfl (hev _) (Nat.le_of_ble_eq_true rfl) H.O)) (Op2.addB (by rw [oneB_len]; omega))) (Ev.sliceB (u := none) (l := some ((kk : Int) + 1)) (Ev.loc H) (Part.some (Ev.bin (Ev.loc H) Ev.cint Op2.add)) Part.none (by omega)) (Op2.addB (by rw [List.length_append, oneB_len]; show _ + (cutR t kk).length ≤ _; omega)))) (Nat.le_refl _) rfl rfl)))
  · refine Ex.next (Ex1.ifF (Tst.cmp (Ev.loc H) Ev.cint (Op2.eqI' rfl)) Ex.nil) ?_
    refine Ex.next (Ex1.ifF (Tst.cmp (Ev.loc H) Ev.cint (Op2.eqI' rfl)) Ex.nil) ?_
    exact Ex.ret (Ex1.ifT (Tst.cmp (Ev.loc H) Ev.cint (Op2.eqI' rfl)) (Ex.ret (Ex1.ret (Ev.bin Ev.cbytes (Ev.loc H) (Op2.addB (a := [49]) (by show 1 + _ ≤ _; omega))))))
  · refine Ex.next (Ex1.ifF (Tst.cmp (Ev.loc H) Ev.cint (Op2.eqI' rfl)) Ex.nil) ?_
    refine Ex.next (Ex1.ifF (Tst.cmp (Ev.loc H) Ev.cint (Op2.eqI' rfl)) Ex.nil) ?_
    refine Ex.next (Ex1.ifF (Tst.cmp (Ev.loc H) Ev.cint (Op2.eqI' rfl)) Ex.nil) ?_
    exact Ex.ret (Ex1.ifT (Tst.cmp (Ev.loc H) Ev.cint (Op2.eqI' rfl)) (Ex.ret (Ex1.ret (Ev.bin (v := .bytes (cutL t kk)) (Ev.sliceB (Ev.loc H) Part.none (Part.some (Ev.loc H)) (by omega)) (Ev.sliceB (u := none) (l := some ((kk : Int) + 1)) (Ev.loc H) (Part.some (Ev.bin (Ev.loc H) Ev.cint Op2.add)) Part.none (by omega)) (Op2.addB (by show _ + (cutR t kk).length ≤ _; omega))))))
  · refine Ex.next (Ex1.ifF (Tst.cmp (Ev.loc H) Ev.cint (Op2.eqI' rfl)) Ex.nil) ?_
    refine Ex.next (Ex1.ifF (Tst.cmp (Ev.loc H) Ev.cint (Op2.eqI' rfl)) Ex.nil) ?_
    refine Ex.next (Ex1.ifF (Tst.cmp (Ev.loc H) Ev.cint (Op2.eqI' rfl)) Ex.nil) ?_
    refine Ex.next (Ex1.ifF (Tst.cmp (Ev.loc H) Ev.cint (Op2.eqI' rfl)) Ex.nil) ?_
    exact Ex.ret (Ex1.dropRet (σ₁ := []) (tl := [.list [.int ((alpha.getD t58 0).toNat : Int)]]) (Ex1.ret (Ev.bin (u := .bytes (oneB (alpha.getD t58 0))) (Ev.loc H) (Ev.bc H bt_bytes (Evs.cons (Ev.list (Evs.cons (Ev.itemB (i := (t58 : Int)) (Ev.con H gc_signs) (Ev.eq (Ev.bin (Ev.loc H) Ev.cint (Op2.fmod (by decide))) (congrArg V.int f58)) (by decide) (by omega) (by rw [alpha_length]; omega)) Evs.nil) (Nat.le_of_ble_eq_true rfl)) Evs.nil) Kws.nil
      (Cl.bytesL (ns := [((alpha.getD t58 0).toNat : Int)]) rfl (hev _) (Nat.le_of_ble_eq_true rfl) H.O)) (Op2.addB (by rw [oneB_len]; omega)))) (Nat.le_refl _) rfl rfl)
end Mine

/-! P23 -/
namespace Mine
theorem beB_succ (n X : Nat) : beB (n + 1) X = UInt8.ofNat (X / 256 ^ n % 256) :: beB n X := by
  unfold beB
  rw [List.range_succ, List.reverse_append, List.map_append]
  rfl
theorem beB_add (n X c : Nat) : beB n (c * 256 ^ n + X) = beB n X := by
  unfold beB
  apply List.map_congr_left
  intro i hi
  have hi : i < n := by simpa using hi
  congr 1
  obtain ⟨m, rfl⟩ : ∃ m, n = i + (m + 1) := ⟨n - i - 1, by omega⟩
  have e : c * 256 ^ (i + (m + 1)) = (c * 256 ^ m * 256) * 256 ^ i := by
    rw [Nat.pow_add, Nat.pow_succ]
    simp [Nat.mul_comm, Nat.mul_left_comm]
  rw [e, Nat.add_comm, Nat.add_mul_div_right _ _ (Nat.pow_pos (by decide)), Nat.add_mul_mod_self_right]
theorem beB_val : ∀ l : List UInt8, beB l.length (valB l) = l
  | [] => rfl
  | x :: r => by
    have hlt := valB_lt r
    have hx := x.toNat_lt
    rw [List.length_cons, beB_succ, valB_cons, beB_add, beB_val r]
    congr 1
    rw [Nat.add_comm, Nat.add_mul_div_right _ _ (Nat.pow_pos (by decide)), Nat.div_eq_of_lt hlt, Nat.zero_add, Nat.mod_eq_of_lt hx]
    simp
theorem nby_val : ∀ l : List UInt8, (∀ x t, l = x :: t → x ≠ 0) → nby (valB l) = l.length
  | [], _ => by decide +kernel
  | x :: r, h => by
    have hx : x.toNat ≠ 0 := fun z => h x r rfl (UInt8.toNat_inj.mp z)
    have h1 := bits_le (valB_bits (x :: r))
    have h2 : 2 ^ (8 * r.length) ≤ valB (x :: r) := by
      rw [valB_cons, Nat.pow_mul]
      show 256 ^ r.length ≤ _
      have : 1 * 256 ^ r.length ≤ x.toNat * 256 ^ r.length := Nat.mul_le_mul_right _ (by omega)
      omega
    have h3 : 8 * r.length < Builtin.Int.intBits (valB (x :: r) : Int) := by
      rcases Nat.lt_or_ge (8 * r.length) (Builtin.Int.intBits (valB (x :: r) : Int)) with h | h
      · exact h
      · have := lt_bits (valB (x :: r))
        have := Nat.lt_of_lt_of_le this (Nat.pow_le_pow_right (by decide) h)
        omega
    unfold nby
    rw [List.length_cons] at h1 ⊢
    omega
theorem split0 : ∀ v : List UInt8, v = List.replicate (v.length - (strip0 v).length) 0 ++ strip0 v
  | [] => rfl
  | x :: r => by
    have ih := split0 r
    have hle := strip0_le r
    by_cases h : x = 0
    · subst h
      have e : strip0 (0 :: r) = strip0 r := by unfold strip0 lstripB; rw [List.dropWhile_cons]; rfl
      rw [e, List.length_cons, show r.length + 1 - (strip0 r).length = (r.length - (strip0 r).length) + 1 by omega, List.replicate_succ, List.cons_append, ← ih]
    · have e : strip0 (x :: r) = x :: r := by
        unfold strip0 lstripB
        rw [List.dropWhile_cons, if_neg (by simpa using h)]
      rw [e, Nat.sub_self]
      rfl
theorem strip0_head : ∀ v : List UInt8, ∀ x t, strip0 v = x :: t → x ≠ 0
  | [], x, t, h => by cases h
  | y :: r, x, t, h => by
    by_cases hy : y = 0
    · subst hy
      have e : strip0 (0 :: r) = strip0 r := by unfold strip0 lstripB; rw [List.dropWhile_cons]; rfl
      exact strip0_head r x t (e ▸ h)
    · have e : strip0 (y :: r) = y :: r := by
        unfold strip0 lstripB
        rw [List.dropWhile_cons, if_neg (by simpa using hy)]
      rw [e] at h
      cases h
      exact hy
theorem hor_LE : ∀ (n I : Nat), I ≤ n → hor ((LE58 I).reverse.map UInt8.ofNat) = I
  | n, I, hn => by
    by_cases h : I = 0
    · subst h; rw [LE58_zero]; rfl
    · cases n with
      | zero => omega
      | succ n =>
        have ih := hor_LE n (I / 58) (by have := Nat.div_lt_self (Nat.pos_of_ne_zero h) (by decide : 1 < 58); omega)
        have hm : I % 58 < 58 := Nat.mod_lt _ (by decide)
        rw [LE58_pos h, List.reverse_cons, List.map_append, List.map_cons, List.map_nil, hor_snoc, ih]
        have : (UInt8.ofNat (I % 58)).toNat = I % 58 := by rw [UInt8.toNat_ofNat']; omega
        rw [this]
        omega
theorem LE_last : ∀ (n I : Nat), I ≤ n → ∀ d, (LE58 I).getLast? = some d → d ≠ 0 ∧ d < 58
  | n, I, hn, d, hd => by
    by_cases h : I = 0
    · subst h; rw [LE58_zero] at hd; cases hd
    · cases n with
      | zero => omega
      | succ n =>
        rw [LE58_pos h, List.getLast?_cons] at hd
        have hm : I % 58 < 58 := Nat.mod_lt _ (by decide)
        cases hq : (LE58 (I / 58)).getLast? with
        | some e =>
          rw [hq] at hd
          have := LE_last n (I / 58) (by have := Nat.div_lt_self (Nat.pos_of_ne_zero h) (by decide : 1 < 58); omega) e hq
          simp at hd
          omega
        | none =>
          rw [hq] at hd
          simp at hd
          have h0 : I / 58 = 0 := by
            by_cases z : I / 58 = 0
            · exact z
            · rw [LE58_pos z, List.getLast?_cons] at hq
              cases hq
          omega
theorem b58_digits (I : Nat) : trB digT (b58L I) = (LE58 I).reverse.map UInt8.ofNat := by
  unfold trB b58L
  rw [List.map_map]
  apply List.map_congr_left
  intro d hd
  exact digT_sign d (LE58_lt I I (Nat.le_refl _) d (List.mem_reverse.mp hd))
theorem is1_alpha : ∀ d : Nat, d < 58 → d ≠ 0 → is1 (alpha.getD d 0) = false := by decide +kernel
theorem b58_head (I : Nat) : (b58L I).dropWhile is1 = b58L I := by
  cases h : b58L I with
  | nil => rfl
  | cons x r =>
    rw [List.dropWhile_cons, if_neg]
    have e : (b58L I).head? = some x := by rw [h]; rfl
    unfold b58L at e
    rw [List.head?_map, List.head?_reverse] at e
    cases hq : (LE58 I).getLast? with
    | none => rw [hq] at e; cases e
    | some d =>
      rw [hq] at e
      have hd := LE_last I I (Nat.le_refl _) d hq
      have := is1_alpha d hd.2 hd.1
      simp at e
      rw [← e]
      simpa using this
theorem drop_ones (z : Nat) (l : List UInt8) : (List.replicate z 49 ++ l).dropWhile is1 = l.dropWhile is1 := by
  induction z with
  | zero => rfl
  | succ z ih => rw [List.replicate_succ, List.cons_append, List.dropWhile_cons, if_pos (by rfl), ih]
theorem hor_zero (z : Nat) (l : List UInt8) : hor (List.replicate z 0 ++ l) = hor l := by
  induction z with
  | zero => rfl
  | succ z ih =>
    rw [List.replicate_succ, List.cons_append]
    show hor ([0] ++ (List.replicate z 0 ++ l)) = _
    rw [hor_app, ih]
    simp [hor]
theorem dec_enc (v : List UInt8) : decB (encB v) = v := by
  obtain ⟨z, hz⟩ : ∃ z, z = v.length - (strip0 v).length := ⟨_, rfl⟩
  have hv := split0 v
  rw [← hz] at hv
  have he : encB v = List.replicate z 49 ++ b58L (valB (strip0 v)) := by unfold encB; rw [hz]
  have h1 : oneN (encB v) = z := by
    unfold oneN
    rw [strip1_eq, he, drop_ones, b58_head, List.length_append, List.length_replicate]
    omega
  have h2 : hor (trB digT (encB v)) = valB (strip0 v) := by
    rw [he, trB_app, b58_digits]
    have : trB digT (List.replicate z 49) = List.replicate z 0 := by
      unfold trB
      rw [List.map_replicate]
      congr 1
    rw [this, hor_zero]
    exact hor_LE _ _ (Nat.le_refl _)
  rw [decB_read, h1, h2, nby_val _ (strip0_head v), beB_val]
  exact hv.symm
theorem enc_mem (v : List UInt8) : ∀ x ∈ encB v, alpha.contains x = true := by
  intro x hx
  unfold encB at hx
  rcases List.mem_append.mp hx with h | h
  · rw [List.eq_of_mem_replicate h]; decide
  · unfold b58L at h
    obtain ⟨d, hd, rfl⟩ := List.mem_map.mp h
    exact (by decide +kernel : ∀ d : Nat, d < 58 → alpha.contains (alpha.getD d 0) = true) d (LE58_lt _ _ (Nat.le_refl _) d (List.mem_reverse.mp hd))
theorem enc_ok (v : List UInt8) : okB (encB v) = true := (okB_iff _).mpr (enc_mem v)
theorem enc_asc (v : List UInt8) : Asc (encB v) := fun x hx => by
  have h := enc_mem v x hx
  have : ∀ n : Nat, n < 256 → alpha.contains (UInt8.ofNat n) = true → n < 128 := by decide +kernel
  exact this x.toNat x.toNat_lt (by simpa using h)
theorem enc_len (v : List UInt8) : (encB v).length ≤ 3 * v.length := by
  unfold encB
  have h1 := LE58_len (2 * (strip0 v).length) (valB (strip0 v)) (valB_58 _)
  have h2 := strip0_le v
  rw [List.length_append, List.length_replicate, b58L_len]
  omega
theorem enc_pos {v : List UInt8} (h : v ≠ []) : encB v ≠ [] := fun e => by
  have := dec_enc v
  rw [e] at this
  exact h (this.symm.trans (by decide +kernel))
theorem sl_body (p k : List UInt8) (h : k.length = 4) : sl (p ++ k) none (some (-4)) = p := by
  unfold sl
  have e : clipAt (p ++ k).length (-4) = (p ++ k).length - 4 := clipAt_neg (p ++ k).length 4 (by decide)
  simp only [Option.elim]
  rw [e, List.length_append, h]
  simp
theorem sl_end (p k : List UInt8) (h : k.length = 4) : sl (p ++ k) (some (-4)) none = k := by
  unfold sl
  have e : clipAt (p ++ k).length (-4) = (p ++ k).length - 4 := clipAt_neg (p ++ k).length 4 (by decide)
  simp only [Option.elim]
  rw [e, List.length_append, h]
  have : k.take 4 = k := by rw [← h]; exact List.take_length
  simp [this]
theorem tell_enc (p : List UInt8) : tell (encC p) = if 112 < (encC p).length then none else some p := by
  have hk := chkB_length p
  unfold tell
  split
  · rfl
  · have hd : decB (encC p) = p ++ chkB p := dec_enc _
    have h1 : bodyB (encC p) = p := by unfold bodyB; rw [hd]; exact sl_body _ _ hk
    have h2 : tailB (encC p) = chkB p := by unfold tailB; rw [hd]; exact sl_end _ _ hk
    rw [if_neg (by unfold encC; rw [enc_ok]; decide), if_neg (by rw [hd, List.length_append, hk]; omega), h1, h2, if_pos rfl]
end Mine

/-! P24 -/
namespace Mine
theorem res_told (v : List UInt8) : decRes v .none = toldR (tell v) := by
  unfold decRes
  cases tell v <;> rfl
theorem told_ok (x : V) (v : List UInt8) (hx : x = .bytes v ∨ (x = .str (asS v) ∧ Asc v)) (hz : v.length ≤ 1000) : FunOk 173 6 true [x] [] [] [] (.ok (toldV (tell v))) := by
  have hl : x.low 0 = true := by rcases hx with rfl | ⟨rfl, _⟩ <;> rfl
  refine f_law_told x (tell v) hl ?_
  rw [← res_told]
  exact f_decode1 x _ szRes_low hl (f_decode_go x v .none hx hz Sz.none)
theorem kind_ok (v : List UInt8) (os : V) (hz : v.length ≤ 1000) (hs : Sz os) (h : decRes v os = .error 49) : FunOk 187 6 true [.bytes v, os] [] [] [] (.ok (.bool true)) := by
  have hl : os.low 0 = true := by cases hs <;> rfl
  refine f_law_is_kind (.bytes v) os rfl hl ?_
  have := f_decode2 (.bytes v) os _ szRes_low rfl hl (f_decode_go (.bytes v) v os (.inl rfl) hz hs)
  rw [h] at this
  exact this
def dueV (p : List UInt8) : V := toldV (if 112 < (encC p).length then none else some p)
section
variable {c : Cx} {σ : List Cell}
theorem Op2.neDue (t : Option (List UInt8)) : Op2 c σ (toldV t) (toldV t) (compareOp .NotEq) (.val (.bool false) σ) := by
  cases t with
  | none => exact Op2.neNone
  | some p => exact Op2.neB' (by simp)
end
theorem Op2.le' {c : Cx} {σ : List Cell} {a b : Int} {r : Bool} (h : decide (a ≤ b) = r) : Op2 c σ (.int a) (.int b) (compareOp .LtE) (.val (.bool r) σ) := by subst h; exact Op2.le
theorem f_whole (p : List UInt8) (hz : p.length ≤ 150) : FunOkC 208 7 true [.bytes p] [] [] [] (.bool true) := by
  have hkl := chkB_length p
  have hTl : (encC p).length ≤ 1000 := by
    have := enc_len (p ++ chkB p)
    rw [List.length_append, hkl] at this
    unfold encC
    omega
  have hTa : Asc (encC p) := enc_asc _
  have hT0 : encC p ≠ [] := enc_pos (by intro e; have := congrArg List.length e; rw [List.length_append, hkl] at this; simp at this)
  have htell := tell_enc p
  refine FunOkC.of (ρ₀ := [("payload", .bytes p)]) (σ' := []) (fun P => by k_is) (fun P => by k_is) (fun P s as₀ xs ys X r1 r2 => ?_) rfl (by simp only [List.map]; decide) rfl rfl rfl (by decide) rfl (fun c O hs hdd htn hk => ?_)
  · cases r1 with
    | cons ra r1 =>
    cases r1; cases r2
    exact ⟨_, BindsTo.of_eq rfl, .cons ra .nil⟩
  have H : Fn c _ _ _ _ := ⟨O, by rw [hs], hdd, hk, htn⟩
  refine ExC.next (Ex1.set (v := .bytes (encC p)) H (Ev.fc H gf_law_written (Evs.cons (Ev.bin (Ev.loc H) (Ev.sliceB (Ev.fc H gf_hash256 (Evs.cons (Ev.loc H) Evs.nil) Kws.nil (Cl.fun0 (f_hash256 p (by omega)) H.O (by rw [H.hd]; decide) noTn rfl rfl)) Part.none (Part.some Ev.cint) (by rw [hashB_length]; decide)) (Op2.addB (by have := hkl; unfold chkB at this; omega))) Evs.nil) Kws.nil
    (Cl.fun0 (f_law_written (p ++ chkB p) (by rw [List.length_append, hkl]; omega)) H.O (by rw [H.hd]; decide) noTn rfl rfl))).C ?_
  refine ExC.next (ρ' := [("payload", .bytes p), ("text", .bytes (encC p)), ("many", .int (p.length : Nat))]) (σ₁ := []) (Ex1.set H (Ev.bc H bt_len (Evs.cons (Ev.loc H) Evs.nil) Kws.nil (Cl.lenB (by omega)))).C ?_
  refine ExC.next (ρ' := [("payload", .bytes p), ("text", .bytes (encC p)), ("many", .int (p.length : Nat))]) (σ₁ := [])
    (ExC1.drop (σ₁ := []) (tl := [.tuple [.int ((p.length + 1 : Nat) : Int), .int (p.length : Nat)]]) (ExC1.ifF (TstC.or (TstsC.cons (TstC.cmp (EvC.fc H gf_encode (Evs.cons (Ev.loc H) Evs.nil) Kws.nil (ClC.fun0 (f_encode p (by omega)) H.O (by rw [H.hd]; decide) noTn rfl rfl)) (Ev.loc H) (Op2.neB' (by simp)))
      (TstsC.cons (TstC.cmp (EvC.fc H gf_encode (Evs.cons (Ev.meth0 H.O (Ev.loc H) Meth.hex (Cl.hex (by omega))) Evs.nil) Kws.nil (ClC.fun0 (f_encode_hex p (by omega)) H.O (by rw [H.hd]; decide) noTn rfl rfl)) (Ev.loc H) (Op2.neB' (by simp)))
      (TstsC.cons (TstC.cmp (EvC.fc H gf_encode (Evs.cons (Ev.loc H) (Evs.cons (Ev.loc H) Evs.nil)) Kws.nil (ClC.fun0 (f_encode_int p (by omega)) H.O (by rw [H.hd]; decide) noTn rfl rfl)) (Ev.loc H) (Op2.neB' (by simp)))
      (TstsC.cons (TstC.cmp (EvC.fc H gf_encode (Evs.cons (Ev.loc H) (Evs.cons (Ev.tuple (Evs.cons (Ev.bin (Ev.loc H) Ev.cint (Op2.addN (a := p.length) (b := 1))) (Evs.cons (Ev.loc H) Evs.nil)) (Nat.le_of_ble_eq_true rfl)) Evs.nil)) Kws.nil (ClC.fun1 (i := 0) (f_encode_tup p ((p.length + 1 : Nat) : Int) (by omega)) H.O (by rw [H.hd]; decide) noTn rfl rfl rfl rfl rfl)) (Ev.loc H) (Op2.neB' (by simp)))
      TstsC.nil))))) Ex.nil.C) (Nat.le_refl _) rfl rfl) ?_
  have hdue : (dueV p).low 0 = true := by unfold dueV; split <;> rfl
  refine Ex.C ?_
  refine Ex.next (ρ' := [("payload", .bytes p), ("text", .bytes (encC p)), ("many", .int (p.length : Nat))]) (σ₁ := [])
    (Ex1.drop (σ₁ := []) (tl := [.list [.int ((p.length + 2 : Nat) : Int), .int ((p.length + 1 : Nat) : Int)]]) (Ex1.ifF (Tst.bool (Tsts.orF (Tst.not (b := true) (Tst.of (Ev.fc H gf_law_refused (Evs.cons (Ev.loc H) (Evs.cons (Ev.bin (Ev.loc H) Ev.cint (Op2.addN (a := p.length) (b := 1))) Evs.nil)) Kws.nil
      (Cl.fun0 (f_law_refused_int p (p.length + 1) (f_encode_intX p (p.length + 1) (by omega) (by omega) (by omega))) H.O (by rw [H.hd]; decide) (fun _ => htn) rfl rfl)) Tru.bool))
      (Tsts.orF (Tst.not (b := true) (Tst.of (Ev.fc H gf_law_refused (Evs.cons (Ev.loc H) (Evs.cons (Ev.list (Evs.cons (Ev.bin (Ev.loc H) Ev.cint (Op2.addN (a := p.length) (b := 2))) (Evs.cons (Ev.bin (Ev.loc H) Ev.cint (Op2.addN (a := p.length) (b := 1))) Evs.nil)) (Nat.le_of_ble_eq_true rfl)) Evs.nil)) Kws.nil
      (Cl.fun1 (i := 0) (f_law_refused_list p [.int ((p.length + 2 : Nat) : Int), .int ((p.length + 1 : Nat) : Int)] rfl (f_encode_listX p p.length (by omega) (by omega) (by omega) (by omega))) H.O (by rw [H.hd]; decide) (fun _ => htn) rfl rfl rfl rfl rfl)) Tru.bool)) Tsts.orNil))) Ex.nil) (Nat.le_refl _) rfl rfl) ?_
  refine Ex.next (ρ' := [("payload", .bytes p), ("text", .bytes (encC p)), ("many", .int (p.length : Nat)), ("due", dueV p)]) (σ₁ := []) (Ex1.set H ?_) ?_
  · by_cases hl : 112 < (encC p).length
    · unfold dueV
      rw [if_pos hl]
      exact Ev.ifF (Tst.cmp (Ev.bc H bt_len (Evs.cons (Ev.loc H) Evs.nil) Kws.nil (Cl.lenB (by omega))) Ev.cint (Op2.le' (decide_eq_false (by omega)))) Ev.cnone
    · unfold dueV
      rw [if_neg hl]
      exact Ev.ifT (Tst.cmp (Ev.bc H bt_len (Evs.cons (Ev.loc H) Evs.nil) Kws.nil (Cl.lenB (by omega))) Ev.cint (Op2.le' (decide_eq_true (by omega)))) (Ev.loc H)
  have htd : toldV (tell (encC p)) = dueV p := by rw [htell]; rfl
  have hread := f_law_read (encC p) hTl
  have htold1 := told_ok (.bytes (encC p)) (encC p) (.inl rfl) hTl
  have htold2 := told_ok (.str (asS (encC p))) (encC p) (.inr ⟨rfl, hTa⟩) hTl
  rw [htd] at hread htold1 htold2
  have hne : Op2 c [] (dueV p) (dueV p) (compareOp .NotEq) (.val (.bool false) []) := Op2.neDue _
  refine Ex.next (σ₁ := []) (Ex1.ifF (Tst.bool (Tsts.orF (Tst.cmp (Ev.fc H gf_law_read (Evs.cons (Ev.loc H) Evs.nil) Kws.nil (Cl.fun0 hread H.O (by rw [H.hd]; decide) noTn rfl rfl)) (Ev.loc H) hne)
    (Tsts.orF (Tst.cmp (Ev.fc H gf_law_told (Evs.cons (Ev.loc H) Evs.nil) Kws.nil (Cl.fun0 htold1 H.O (by rw [H.hd]; decide) (fun _ => htn) rfl rfl)) (Ev.loc H) hne)
    (Tsts.orF (Tst.cmp (Ev.fc H gf_law_told (Evs.cons (Ev.meth H.O (Ev.loc H) Meth.decode (Evs.cons Ev.cstr Evs.nil) Kws.nil (Cl.decode hTa (by omega) hT0)) Evs.nil) Kws.nil (Cl.fun0 htold2 H.O (by rw [H.hd]; decide) (fun _ => htn) rfl rfl)) (Ev.loc H) hne) Tsts.orNil)))) Ex.nil) ?_
  by_cases hl : 112 < (encC p).length
  · exact Ex.ret (Ex1.ifT (Tst.cmp (Ev.bc H bt_len (Evs.cons (Ev.loc H) Evs.nil) Kws.nil (Cl.lenB (by omega))) Ev.cint (Op2.gt' (decide_eq_true (by omega)))) (Ex.ret (Ex1.ret Ev.cbool)))
  refine Ex.next (Ex1.ifF (Tst.cmp (Ev.bc H bt_len (Evs.cons (Ev.loc H) Evs.nil) Kws.nil (Cl.lenB (by omega))) Ev.cint (Op2.gt' (decide_eq_false (by omega)))) Ex.nil) ?_
  rw [if_neg hl] at htell
  have r1 : decRes (encC p) (.int (p.length : Nat)) = .ok (.bytes p) := by
    unfold decRes
    rw [htell]
    show (if (((p.length : Nat) : Int) == (p.length : Int)) = true then _ else _) = _
    rw [if_pos (by simp)]
  have r2 : decRes (encC p) (.int ((p.length + 1 : Nat) : Int)) = .error 37 := by
    unfold decRes
    rw [htell]
    show (if (((p.length + 1 : Nat) : Int) == (p.length : Int)) = true then _ else _) = _
    rw [if_neg (by simp; omega)]
  have r3 : decRes (encC p) (.bool true) = .error 49 := by unfold decRes; rw [htell]; rfl
  have r4 : decRes (encC p) (.str "5") = .error 49 := by unfold decRes; rw [htell]; rfl
  have d1 := f_decode2 (.bytes (encC p)) _ _ szRes_low rfl rfl (f_decode_go (.bytes (encC p)) (encC p) (.int (p.length : Nat)) (.inl rfl) hTl (Sz.int _ (by omega)))
  have d2 := f_decode2 (.bytes (encC p)) _ _ szRes_low rfl rfl (f_decode_go (.bytes (encC p)) (encC p) (.int ((p.length + 1 : Nat) : Int)) (.inl rfl) hTl (Sz.int _ (by omega)))
  rw [r1] at d1
  rw [r2] at d2
  refine Ex.next (σ₁ := []) (Ex1.ifF (Tst.bool (Tsts.orF (Tst.cmp (Ev.fc H gf_decode (Evs.cons (Ev.loc H) (Evs.cons (Ev.loc H) Evs.nil)) Kws.nil (Cl.fun0 d1 H.O (by rw [H.hd]; decide) noTn rfl rfl)) (Ev.loc H) (Op2.neB' (by simp)))
    (Tsts.orF (Tst.not (b := true) (Tst.of (Ev.fc H gf_law_is_kind (Evs.cons (Ev.loc H) (Evs.cons Ev.cbool Evs.nil)) Kws.nil (Cl.fun0 (kind_ok (encC p) (.bool true) hTl Sz.bool r3) H.O (by rw [H.hd]; decide) (fun _ => htn) rfl rfl)) Tru.bool))
    (Tsts.orF (Tst.not (b := true) (Tst.of (Ev.fc H gf_law_is_kind (Evs.cons (Ev.loc H) (Evs.cons Ev.cstr Evs.nil)) Kws.nil (Cl.fun0 (kind_ok (encC p) (.str "5") hTl Sz.str r4) H.O (by rw [H.hd]; decide) (fun _ => htn) rfl rfl)) Tru.bool)) Tsts.orNil)))) Ex.nil) ?_
  exact Ex.ret (Ex1.tryCaught (cst := .bool true) H.O htn (Ex.exc (Ex1.exprX (Ev.fc H gf_decode (Evs.cons (Ev.loc H) (Evs.cons (Ev.bin (Ev.loc H) Ev.cint (Op2.addN (a := p.length) (b := 1))) Evs.nil)) Kws.nil (Cl.fun0 d2 H.O (by rw [H.hd]; decide) noTn rfl rfl)) H.O)) (by k_is) (by kts_isx) (by rw [H.hs]; rfl) (.inr ⟨_, rfl⟩))
end Mine

/-! P25 -/
namespace Mine
theorem ExC.use {c : Cx} {ρ : Loc} {σ : List Cell} {body : List Stmt} {o : Out} {g : Heap} {as : List Nat} {s : Shared} {Q : Flow → Shared → Prop} {E : Value → Shared → Prop} (h : ExC c ρ σ body o) (I : Inv c g as ρ σ s) (K : ExCont c g as Q E o) : wpC (model PR c.w) c.A (execs body c.env) Q E s := h g as s Q E I K
theorem top_call {w : World} {mean : ExcName → Option Value} {s₁ : Shared} {mg mb : PySem.Str → Option Value} {fa l : Nat} {o : Obj} {pm cd doc : Value} {nm : PySem.Str} {params : Arguments} {body : List Stmt} {scope : Scope} {σ' : List Cell} {Q E : Value → Shared → Prop}
    (KX : (hd.heap_39 w.params).In s₁.heap) (T : Top hd.view_39 (looseW hd.view_39 [Str.ofString "BTClibValueError", Str.ofString "BTClibTypeError", Str.ofString "bytes_from_octets", Str.ofString "encode", Str.ofString "decode"]) mean mg mb s₁.heap)
    (ho : s₁.heap.get? fa = some o) (hdat : o.data = .func { docDef nm params body scope pm cd doc with defaults := .none, kwdefaults := .none }) (hcd : s₁.heap.CodeRec cd nm)
    (hb : BindsTo s₁ { docDef nm params body scope pm cd doc with defaults := .none, kwdefaults := .none } ⟨[.ref l], []⟩ [("script", .ref l)])
    (hk : scope.kind = .function) (hco : scope.isCoroutine = false) (hgen : scope.isGenerator = false) (hcell : ∀ x ∈ scope.names, x.2 ≠ .cell) (hloc : scope.names.lookup ("script" : PySem.Str) = some .local)
    (hbody : ∀ c : Cx, c.Ok → c.scope = scope → c.d = 8 → c.tn = true → c.k = 0 → c.outer = [] → c.base = s₁.heap → ExC c [("script", .fn l)] [] body (.ret (.bool true) σ'))
    (hQ : ∀ s', (∀ b o, s₁.heap.get? b = some o → s'.heap.get? b = some o) → s' = { s₁ with heap := s'.heap, toks := s'.toks } → Q (.bool true) s') :
    wpC (model PR w) callerA (PySem.call (.ref fa) [.ref l]) Q E s₁ := by
  refine wpC.call (codeC.def (binds := [("script", .ref l)]) (by decide) ho hdat T.nolimit hcd rfl hb hcell (by intro x hx; rw [List.mem_singleton.mp hx]; exact hloc) (fun h₁ hns hk₁ E' => ?_) hco hgen hk)
  let c' : Cx := { w := w, mean := mean, mg := mg, mb := mb, A₀ := callerA, base := s₁.heap, outer := [], qual := nm, scope := scope, L := s₁.heap.objs.size, f := fa, cd := cd, s₀ := s₁, tn := true, d := 8, fz := [], k := 0 }
  have O' : c'.Ok := ⟨KX, T, hk, rfl, rfl, by show (1 + claimMargin) + 1 + 8 < recursionLimit; decide, by show (4 : Nat) + 100 * 8 + 100 < 9900; decide⟩
  have I' : Inv c' s₁.heap [] [("script", .fn l)] [] { s₁ with heap := h₁, toks := s₁.toks + 1 } := by
    refine ⟨below_caller _, ktsDicts_nil, rfl, List.nodup_nil, fun i a _ h => by simp at h, _, [], ⟨hns, hk₁, Nat.le_refl _⟩, News.nil, rfl, fun x v hv => ?_, Sto.nil⟩
    rw [List.lookup_cons] at hv
    by_cases hx : x = ("script" : PySem.Str)
    · subst hx
      simp at hv
      subst hv
      exact ⟨.ref l, rfl, .fn l⟩
    · have : (x == ("script" : PySem.Str)) = false := by simpa using hx
      rw [this] at hv
      cases hv
  refine ExC.use (c := c') (ρ := [("script", .fn l)]) (σ := []) (o := .ret (.bool true) σ') (hbody c' O' rfl rfl rfl rfl rfl rfl) I' (fun g' as' ρ' s' x t ext J r => ?_)
  cases r
  obtain ⟨m, led, F, N⟩ := J.fr
  exact hQ s' (fun b o e => F.keep _ _ (J.B.stays _ _ e)) J.sim
theorem uniEq : (PySem.Str.ofString "é") = (⟨#[233]⟩ : PySem.Str) := by decide +kernel
theorem empEq : (PySem.Str.ofString "") = asS [] := by decide +kernel
theorem idxTo (n : Nat) : Builtin.Str.strSliceIndices none (some 3) 1 n = (List.range (min 3 n)).map (0 + ·) := by
  have h := sliceRange_one 0 (min 3 n)
  rw [Nat.sub_zero] at h
  rw [← h]
  unfold Builtin.Str.strSliceIndices
  simp only [show ¬ ((1 : Int) < 0) by decide, if_false]
  congr 1
  simp
  omega
theorem idxFrom (n : Nat) : Builtin.Str.strSliceIndices (some 3) none 1 n = (List.range (n - min 3 n)).map (min 3 n + ·) := by
  have h := sliceRange_one (min 3 n) n
  rw [← h]
  unfold Builtin.Str.strSliceIndices
  simp only [show ¬ ((1 : Int) < 0) by decide, if_false]
  congr 1
  simp
  omega
theorem asS_ext {l m : List Nat} {b : List UInt8} (h : l = b.map fun x => x.toNat) : (⟨l.toArray⟩ : PySem.Str) = asS b := by rw [h]; rfl
theorem cutTo (t : List UInt8) : slS (asS t) none (some 3) = asS (t.take 3) := by
  unfold slS Txt.slice
  have e : ((Builtin.Str.strSliceIndices none (some 3) 1 (asS t).length).filterMap ((asS t).cps[·]?)) = (t.take 3).map fun x => x.toNat := by
    rw [idxTo, pick_run, asS_length]
    show (((t.map fun x => x.toNat).drop 0).take _) = _
    rw [List.drop_zero, ← List.map_take, Nat.min_comm, ← List.take_take]
    rw [List.take_of_length_le (by rw [List.length_take]; omega)]
  split
  · next h =>
    simp only [beq_self_eq_true, Bool.true_and, beq_iff_eq] at h
    rw [idxTo, asS_length] at h
    simp at h
    rw [List.take_of_length_le (by omega)]
  · rw [e]; rfl
theorem cutFrom (t : List UInt8) : slS (asS t) (some 3) none = asS (t.drop 3) := by
  unfold slS Txt.slice
  have e : ((Builtin.Str.strSliceIndices (some 3) none 1 (asS t).length).filterMap ((asS t).cps[·]?)) = (t.drop 3).map fun x => x.toNat := by
    rw [idxFrom, pick_run, asS_length]
    show (((t.map fun x => x.toNat).drop _).take _) = _
    rw [← List.map_drop, ← List.map_take]
    congr 1
    by_cases h : 3 ≤ t.length
    · rw [Nat.min_eq_left h, List.take_of_length_le (by simp)]
    · rw [Nat.min_eq_right (by omega), List.drop_of_length_le (Nat.le_refl _), List.drop_of_length_le (by omega)]
      simp
  split
  · next h =>
    simp only [beq_self_eq_true, Bool.true_and, beq_iff_eq] at h
    rw [idxFrom, asS_length] at h
    simp at h
    have : t = [] := List.length_eq_zero_iff.mp (by omega)
    subst this
    rfl
  · rw [e]; rfl
theorem cutTo' (t : List UInt8) : Txt.slice (asS t) none (some 3) = asS (t.take 3) := cutTo t
theorem cutFrom' (t : List UInt8) : Txt.slice (asS t) (some 3) none = asS (t.drop 3) := cutFrom t
theorem f_kind_head (i : Int) : FunOk 187 6 true [.int i, .none] [] [] [] (.ok (.bool true)) :=
  f_law_is_kind (.int i) .none rfl rfl (f_decode2 (.int i) .none (.error 49) (by intro v h; cases h) rfl rfl (f_decode_intT i))
theorem sl_map {α β : Type} (f : α → β) (l : List α) (a b : Option Int) : sl (l.map f) a b = (sl l a b).map f := by
  unfold sl
  simp [List.map_drop, List.map_take]
theorem ints_low (k : Nat) (l : List Int) : (l.map V.int).all (V.low k) = true := by
  rw [List.all_map, List.all_eq_true]
  intro x _
  rfl
theorem done : PySem.Challenge.rw_bv5002_01.Holds := by
  refine hd ?_
  intro w s₀ s₁ mg mb G Y fa o pm cd doc dV kV ho hdat hcd hD hmg hg args vals as hpre hlay hrd hwl hlo
  have KX := kIn_of Y
  wrow_args hpre hlay hrd hwl hlo
  rename_i ns _ _ _ _ _ _ _ l xs _ hL _ _ _ hI _ hlen _
  obtain rfl := hD.pos_none rfl
  obtain rfl := hD.kw_none rfl
  obtain ⟨hv, hhv⟩ : ∃ hv : Int, hv = ns.headD 0 := ⟨_, rfl⟩
  obtain ⟨n2, hn2⟩ : ∃ n2 : Int, n2 = (ns[1]?).getD (hv.fdiv 5 * 5 + 2) := ⟨_, rfl⟩
  obtain ⟨p0, hp0, f0⟩ := f_payload hv
  obtain ⟨p1, hp1, f1⟩ := f_payload n2
  have hkl := chkB_length p0
  obtain ⟨T, hT⟩ : ∃ T, T = encC p0 := ⟨_, rfl⟩
  have hTl : T.length ≤ 462 := by
    have := enc_len (p0 ++ chkB p0)
    rw [List.length_append, hkl] at this
    rw [hT]
    unfold encC
    omega
  have hTa : Asc T := by rw [hT]; exact enc_asc _
  have hT0 : T ≠ [] := by rw [hT]; exact enc_pos (by intro e; have := congrArg List.length e; rw [List.length_append, hkl] at this; simp at this)
  have hTp : 0 < T.length := List.length_pos_iff.mpr hT0
  obtain ⟨nums, hnums⟩ : ∃ nums : List Int, nums = sl ns (some 2) (some 5) ++ [hv.fdiv 3] := ⟨_, rfl⟩
  have hln : ns.length ≤ 63 := by omega
  refine top_call (σ' := [.list (sl (ns.map V.int) (some 1) none), .list [.bytes p0, .bytes p1], .list (sl (ns.map V.int) (some 2) (some 5)), .list [.int (hv.fdiv 3)], .list (nums.map V.int), .list [.bytes T]]) KX G.T ho hdat hcd (BindsTo.of_eq rfl) rfl rfl rfl (of_decide_eq_true rfl) rfl (fun c O hs hdd htn hk hou hba => ?_) (fun s' hkeep sim => ?_)
  · have H : Fn c _ _ _ _ := ⟨O, by rw [hs], hdd, hk, htn⟩
    have LSs : ∀ σ, LS c σ (.fn l) (ns.map V.int) := fun σ => LS.ground (by rw [hba]; exact hL) hI
    have hlm : (ns.map V.int).length ≤ 1000000 := by rw [List.length_map]; omega
    refine ExC.next (ρ' := [("script", .fn l), ("head", .int hv)]) (σ₁ := []) (Ex1.set H ?_).C ?_
    · cases ns with
      | nil => exact Ev.eq (Ev.ifF (Tst.of (Ev.loc H) (Tru.list (LSs []) hlm rfl)) Ev.cint) (by rw [hhv]; rfl)
      | cons a r => exact Ev.eq (Ev.ifT (Tst.of (Ev.loc H) (Tru.list (LSs []) hlm rfl)) (Ev.itemL (Ev.loc H) Ev.cint (LSs []) (by decide) (by decide) rfl rfl)) (by rw [hhv]; rfl)
    have hX : ∃ X, X = sl (ns.map V.int) (some 1) none := ⟨_, rfl⟩
    obtain ⟨X, hX⟩ := hX
    rw [← hX]
    have hXl : X.length ≤ 1000000 := by rw [hX]; exact Nat.le_trans (sl_le _ _ _) hlm
    have hXa : ∀ k, X.all (V.low k) = true := fun k => by rw [hX, sl_map]; exact ints_low k _
    have h2nd : ∀ {np1 np2 p1 p2 p3 p4 p5 q1 q2 q3 q4 q5 q6 q7 pos : Pos} {k1 k2 k3 k4 k5 : Nat}, Ev c [("script", .fn l), ("head", .int hv)] []
        (.IfExp (.Subscript (.Name "script" np1) (.Slice (some (.Constant (.int 1) k1 p1)) none none p2) p3) (.Subscript (.Name "script" np2) (.Constant (.int 1) k2 p4) p5) (.BinOp (.BinOp (.BinOp (.Name "head" q1) .FloorDiv (.Constant (.int 5) k3 q2) q3) .Mult (.Constant (.int 5) k4 q4) q5) .Add (.Constant (.int 2) k5 q6) q7) pos)
        (.val (.int n2) [.list X]) := fun {_ _ _ _ _ _ _ _ _ _ _ _ _ _ _ _ _ _ _ _} => by
      have hsl := @Ev.sliceL c [("script", .fn l), ("head", .int hv)] [] [] [] []
      cases ns with
      | nil =>
        refine Ev.eq (Ev.ifF (σ₁ := [.list X]) (Tst.of (v := .ref 0) (by rw [hX]; exact Ev.sliceL (Ev.loc H) (Part.some Ev.cint) Part.none (LSs []) hlm rfl) (Tru.list (LS.cell (vs := X) rfl) hXl (by rw [hX]; rfl))) (Ev.bin (Ev.bin (Ev.bin (Ev.loc H) Ev.cint (Op2.fdiv (by decide) (by decide))) Ev.cint (Op2.mul (IntMulOk.of_right (by decide)))) Ev.cint Op2.add)) ?_
        rw [hn2]; rfl
      | cons a r => cases r with
        | nil =>
          refine Ev.eq (Ev.ifF (σ₁ := [.list X]) (Tst.of (v := .ref 0) (by rw [hX]; exact Ev.sliceL (Ev.loc H) (Part.some Ev.cint) Part.none (LSs []) hlm rfl) (Tru.list (LS.cell (vs := X) rfl) hXl (by rw [hX]; rfl))) (Ev.bin (Ev.bin (Ev.bin (Ev.loc H) Ev.cint (Op2.fdiv (by decide) (by decide))) Ev.cint (Op2.mul (IntMulOk.of_right (by decide)))) Ev.cint Op2.add)) ?_
          rw [hn2]; rfl
        | cons b r =>
          refine Ev.eq (Ev.ifT (σ₁ := [.list X]) (Tst.of (v := .ref 0) (by rw [hX]; exact Ev.sliceL (Ev.loc H) (Part.some Ev.cint) Part.none (LSs []) hlm rfl) (Tru.list (LS.cell (vs := X) rfl) hXl ?_)) (Ev.itemL (Ev.loc H) Ev.cint (LSs _) (by decide) (by decide) rfl rfl)) ?_
          · rw [hX]
            unfold sl
            simp [clipAt]
            omega
          · rw [hn2]; rfl
    refine ExC.next (ρ' := [("script", .fn l), ("head", .int hv), ("payloads", .ref 1)]) (σ₁ := [.list X, .list [.bytes p0, .bytes p1]]) (Ex1.set H (Ev.list (Evs.cons (Ev.fc H gf_law_payload (Evs.cons (Ev.loc H) Evs.nil) Kws.nil (Cl.fun0 f0 H.O (by rw [H.hd]; decide) noTn rfl rfl))
      (Evs.cons (Ev.fc H gf_law_payload (Evs.cons h2nd Evs.nil) Kws.nil (Cl.fun0 f1 H.O (by rw [H.hd]; decide) noTn rfl rfl)) Evs.nil)) (Nat.le_of_ble_eq_true rfl))).C ?_
    have eP : ∀ σ', ([.list X, .list [.bytes p0, .bytes p1]] ++ σ' : List Cell)[1]? = some (.list [.bytes p0, .bytes p1]) := fun _ => rfl
    let R1 : Nat → Loc := fun i => match i with
      | 0 => [("script", .fn l), ("head", .int hv), ("payloads", .ref 1)]
      | 1 => [("script", .fn l), ("head", .int hv), ("payloads", .ref 1), ("payload", .bytes p0)]
      | _ => [("script", .fn l), ("head", .int hv), ("payloads", .ref 1), ("payload", .bytes p1)]
    refine ExC.next (ρ' := R1 2) (σ₁ := [.list X, .list [.bytes p0, .bytes p1]]) (ExC1.for_ (v := .ref 1) 2 R1 (fun _ => [.list X, .list [.bytes p0, .bytes p1]]) (fun i => .itL 1 i) (fun i => match i with | 0 => .bytes p0 | _ => .bytes p1) H.O (by rw [H.hs]; rfl) rfl (Ev.loc H) (Itr.list (vs := [.bytes p0, .bytes p1]) rfl) (fun _ _ => rfl) (Nat.le_refl _) (fun i hi => ?_) (NxEnd.list (vs := [.bytes p0, .bytes p1]) H.O rfl (by rw [hk]; exact Nat.zero_le _) (Nat.le_refl _)) ?_ ?_) ?_
    · have hi' : i = 0 ∨ i = 1 := by omega
      rcases hi' with rfl | rfl
      · refine ⟨Nx.list (c := c) (σ := [.list X, .list [.bytes p0, .bytes p1], .itL 1 0]) (i := 1) (j := 2) (p := 0) (vs := [.bytes p0, .bytes p1]) rfl rfl (by rw [hk]; exact Nat.zero_le _) rfl, ?_⟩
        exact ExC.next (ExC1.ifF (TstC.not (b := true) (TstC.of (EvC.fc H gf_law_whole (Evs.cons (Ev.loc H) Evs.nil) Kws.nil (ClC.fun0 (f_whole p0 hp0) H.O (by rw [H.hd]; decide) (fun _ => hou) rfl rfl)) Tru.bool)) Ex.nil.C) Ex.nil.C
      · refine ⟨Nx.list (c := c) (σ := [.list X, .list [.bytes p0, .bytes p1], .itL 1 1]) (i := 1) (j := 2) (p := 1) (vs := [.bytes p0, .bytes p1]) rfl rfl (by rw [hk]; exact Nat.zero_le _) rfl, ?_⟩
        exact ExC.next (ExC1.ifF (TstC.not (b := true) (TstC.of (EvC.fc H gf_law_whole (Evs.cons (Ev.loc H) Evs.nil) Kws.nil (ClC.fun0 (f_whole p1 hp1) H.O (by rw [H.hd]; decide) (fun _ => hou) rfl rfl)) Tru.bool)) Ex.nil.C) Ex.nil.C
    · rfl
    · show (X.all (V.low 2) && _) = true
      rw [hXa]
      rfl
    refine ExC.next (ρ' := [("script", .fn l), ("head", .int hv), ("payloads", .ref 1), ("payload", .bytes p1), ("text", .bytes T)]) (σ₁ := [.list X, .list [.bytes p0, .bytes p1]]) (Ex1.set (v := .bytes T) H ?_).C ?_
    · rw [hT]
      exact Ev.fc H gf_law_written (Evs.cons (Ev.bin (v := .bytes p0) (Ev.itemL (Ev.loc H) Ev.cint (LS.cell (vs := [.bytes p0, .bytes p1]) rfl) (by decide) (by decide) rfl rfl) (Ev.sliceB (Ev.fc H gf_hash256 (Evs.cons (Ev.itemL (u := .bytes p0) (Ev.loc H) Ev.cint (LS.cell (vs := [.bytes p0, .bytes p1]) rfl) (by decide) (by decide) rfl rfl) Evs.nil) Kws.nil (Cl.fun0 (f_hash256 p0 (by omega)) H.O (by rw [H.hd]; decide) noTn rfl rfl)) Part.none (Part.some Ev.cint) (by rw [hashB_length]; decide)) (Op2.addB (by have := hkl; unfold chkB at this; omega))) Evs.nil) Kws.nil
        (Cl.fun0 (f_law_written (p0 ++ chkB p0) (by rw [List.length_append, hkl]; omega)) H.O (by rw [H.hd]; decide) noTn rfl rfl)
    refine Ex.C ?_
    obtain ⟨Y5, hY5⟩ : ∃ Y5, Y5 = sl (ns.map V.int) (some 2) (some 5) := ⟨_, rfl⟩
    rw [← hY5]
    have hYm : Y5 = (sl ns (some 2) (some 5)).map V.int := by rw [hY5, sl_map]
    have hNm : nums.map V.int = Y5 ++ [.int (hv.fdiv 3)] := by rw [hYm, hnums, List.map_append]; rfl
    have hYl : Y5.length ≤ 100 := by rw [hY5]; have := sl_le (ns.map V.int) (some 2) (some 5); rw [List.length_map] at this; omega
    have hNl : nums.length ≤ 1000 := by have := congrArg List.length hNm; rw [List.length_map, List.length_append] at this; simp at this; omega
    have hYa : ∀ k, Y5.all (V.low k) = true := fun k => by rw [hYm]; exact ints_low k _
    let U : Nat → List UInt8 := fun i => (f_turned (nums.getD i 0) T hTp (by omega)).choose
    have hU : ∀ i, (U i).length ≤ 2 * T.length + 1 ∧ FunOk 201 0 false [.int (nums.getD i 0), .bytes T] [] [] [] (.ok (.bytes (U i))) := fun i => (f_turned (nums.getD i 0) T hTp (by omega)).choose_spec
    let S5 : List Cell := [.list X, .list [.bytes p0, .bytes p1], .list Y5, .list [.int (hv.fdiv 3)], .list (nums.map V.int)]
    let R2 : Nat → Loc := fun i => match i with
      | 0 => [("script", .fn l), ("head", .int hv), ("payloads", .ref 1), ("payload", .bytes p1), ("text", .bytes T)]
      | i + 1 => [("script", .fn l), ("head", .int hv), ("payloads", .ref 1), ("payload", .bytes p1), ("text", .bytes T), ("number", .int (nums.getD i 0)), ("turned", .bytes (U i))]
    have hR : ∀ i, (setL "number" (.int (nums.getD i 0)) (R2 i)).lookup ("number" : PySem.Str) = some (V.int (nums.getD i 0)) := fun i => by cases i <;> rfl
    have hR' : ∀ i, (setL "number" (.int (nums.getD i 0)) (R2 i)).lookup ("text" : PySem.Str) = some (V.bytes T) := fun i => by cases i <;> rfl
    have hR2 : ∀ i, setL "turned" (.bytes (U i)) (setL "number" (.int (nums.getD i 0)) (R2 i)) = R2 (i + 1) := fun i => by cases i <;> rfl
    refine Ex.next (ρ' := R2 nums.length) (σ₁ := S5) (Ex1.for_ (v := .ref 4) nums.length R2 (fun _ => S5) (fun i => .itL 4 i) (fun i => .int (nums.getD i 0)) H.O (by rw [H.hs]; rfl) rfl ?_ (Itr.list (vs := nums.map V.int) rfl) (fun _ _ => rfl) (Nat.le_of_ble_eq_true rfl) (fun i hi => ⟨?_, ?_⟩) (NxEnd.list (vs := nums.map V.int) H.O rfl (by rw [hk]; exact Nat.zero_le _) (by rw [List.length_map]; exact Nat.le_refl _)) ?_ ?_) ?_
    · show Ev c _ _ _ (.val (.ref 4) [.list X, .list [.bytes p0, .bytes p1], .list Y5, .list [.int (hv.fdiv 3)], .list (nums.map V.int)])
      rw [hNm]
      refine Ev.bin (v := .ref 2) (u := .ref 3) (σ₁ := [.list X, .list [.bytes p0, .bytes p1], .list Y5]) (σ₂ := [.list X, .list [.bytes p0, .bytes p1], .list Y5, .list [.int (hv.fdiv 3)]]) ?_ ?_ ?_
      · rw [hY5]
        exact Ev.sliceL (σ₃ := [.list X, .list [.bytes p0, .bytes p1]]) (Ev.loc H) (Part.some Ev.cint) (Part.some Ev.cint) (LSs _) hlm rfl
      · exact Ev.list (σ₁ := [.list X, .list [.bytes p0, .bytes p1], .list Y5]) (Evs.cons (Ev.bin (Ev.loc H) Ev.cint (Op2.fdiv (by decide) (by decide))) Evs.nil) (Nat.le_of_ble_eq_true rfl)
      · exact Op2.addL (σ := [.list X, .list [.bytes p0, .bytes p1], .list Y5, .list [.int (hv.fdiv 3)]]) (LS.cell (vs := Y5) rfl) (LS.cell (vs := [.int (hv.fdiv 3)]) rfl) (by show Y5.length + 1 ≤ _; omega)
    · refine Nx.list (c := c) (σ := S5 ++ [.itL 4 i]) (i := 4) (j := 5) (p := i) (vs := nums.map V.int) rfl rfl (by rw [hk]; exact Nat.zero_le _) ?_
      rw [List.getElem?_map, List.getElem?_eq_getElem hi, List.getD_eq_getElem?_getD, List.getElem?_eq_getElem hi]
      rfl
    · have hul := (hU i).1
      have ht := told_ok (.bytes (U i)) (U i) (.inl rfl) (by omega)
      have hr := f_law_read (U i) (by omega)
      refine Ex.next (ρ' := R2 (i + 1)) (σ₁ := S5 ++ [.itL 4 (i + 1)]) ?_ ?_
      · rw [← hR2]
        exact Ex1.set H (Ev.fc H gf_law_turned (Evs.cons (Ev.loc H (hR i)) (Evs.cons (Ev.loc H (hR' i)) Evs.nil)) Kws.nil (Cl.fun0 (hU i).2 H.O (by rw [H.hd]; decide) noTn rfl rfl))
      · exact Ex.next (Ex1.ifF (Tst.cmp (Ev.fc H gf_law_told (Evs.cons (Ev.loc H) Evs.nil) Kws.nil (Cl.fun0 ht H.O (by rw [H.hd]; decide) (fun _ => htn) rfl rfl)) (Ev.fc H gf_law_read (Evs.cons (Ev.loc H) Evs.nil) Kws.nil (Cl.fun0 hr H.O (by rw [H.hd]; decide) noTn rfl rfl)) (Op2.neDue _)) Ex.nil) Ex.nil
    · cases nums.length <;> rfl
    · show (X.all (V.low 5) && (_ && (Y5.all (V.low 5) && (_ && ((nums.map V.int).all (V.low 5) && _))))) = true
      rw [hXa, hYa, ints_low]
      rfl
    have hTx : (R2 nums.length).lookup ("text" : PySem.Str) = some (V.bytes T) := by cases nums.length <;> rfl
    have hHd : (R2 nums.length).lookup ("head" : PySem.Str) = some (V.int hv) := by cases nums.length <;> rfl
    generalize R2 nums.length = ρ3 at hTx hHd ⊢
    have hun : FunOk 173 6 true [.str (uni (T.take 3) (T.drop 3))] [] [] [] (.ok .none) := f_law_told_bad (T.take 3) (T.drop 3) (fun x hx => hTa x (List.mem_of_mem_take hx)) (by
      intro e
      have h3 : (T.take 3).length = 0 := by rw [e]; rfl
      rw [List.length_take] at h3
      omega) (by rw [List.length_take, List.length_drop]; omega)
    have hem : FunOk 173 6 true [.str (asS [])] [] [] [] (.ok .none) := told_ok (.str (asS [])) [] (.inr ⟨rfl, fun x hx => by cases hx⟩) (by decide)
    refine Ex.next (ρ' := ρ3) (σ₁ := S5) (Ex1.ifF (Tst.bool (Tsts.orF (Tst.cmp (Ev.fc H gf_law_told (Evs.cons (Ev.eq (v' := .str (uni (T.take 3) (T.drop 3))) (Ev.bin (Ev.bin (Ev.sliceS (l := none) (u := some 3) (Ev.meth H.O (Ev.loc H hTx) Meth.decode (Evs.cons Ev.cstr Evs.nil) Kws.nil (Cl.decode hTa (by omega) hT0)) Part.none (Part.some Ev.cint) (by rw [asS_length]; omega)) Ev.cstr (Op2.addS ?_)) (Ev.sliceS (l := some 3) (u := none) (Ev.meth H.O (Ev.loc H hTx) Meth.decode (Evs.cons Ev.cstr Evs.nil) Kws.nil (Cl.decode hTa (by omega) hT0)) (Part.some Ev.cint) Part.none (by rw [asS_length]; omega)) (Op2.addS ?_)) ?_) Evs.nil) Kws.nil (Cl.fun0 hun H.O (by rw [H.hd]; decide) (fun _ => htn) rfl rfl)) Ev.cnone (Op2.isNotNone (by rfl)))
      (Tsts.orF (Tst.cmp (Ev.fc H gf_law_told (Evs.cons (Ev.eq (v' := .str (asS [])) Ev.cstr (congrArg V.str empEq)) Evs.nil) Kws.nil (Cl.fun0 hem H.O (by rw [H.hd]; decide) (fun _ => htn) rfl rfl)) Ev.cnone (Op2.isNotNone (by rfl))) Tsts.orNil))) Ex.nil) ?_
    · rw [cutTo', asS_length, List.length_take, uniEq]
      show _ + 1 ≤ _
      omega
    · rw [strLen_append, cutTo', cutFrom', asS_length, asS_length, List.length_take, List.length_drop, uniEq]
      show _ + 1 + _ ≤ _
      omega
    · rw [cutTo', cutFrom', uniEq]
      rfl
    exact Ex.ret (Ex1.ret (Ev.andT (v := .bool true) (σ₁ := S5) (Ev.fc H gf_law_is_kind (Evs.cons (Ev.loc H hHd) (Evs.cons Ev.cnone Evs.nil)) Kws.nil (Cl.fun0 (f_kind_head hv) H.O (by rw [H.hd]; decide) (fun _ => htn) rfl rfl)) Tru.bool
      (Ev.fc H gf_law_is_kind (Evs.cons (Ev.list (σ₁ := S5) (Evs.cons (Ev.loc H hTx) Evs.nil) (Nat.le_of_ble_eq_true rfl)) (Evs.cons Ev.cnone Evs.nil)) Kws.nil (Cl.fun1 (i := 5) (f_law_is_kindL [.bytes T] rfl (f_decodeL [.bytes T] rfl)) H.O (by rw [H.hd]; decide) (fun _ => htn) rfl rfl rfl rfl rfl))))
  · have : ReadsW PySem.Challenge.rw_bv5002_01.row.records (classAt s₀.heap) s'.heap (.bool true) (.bool true) [] := .bool true
    refine ⟨.inl ⟨_, _, _, rfl, fun _ => rfl, this, ?_, fun _ => ⟨List.nodup_nil, fun a ha => by cases ha⟩⟩, .of_keep hkeep, ?_, ?_⟩
    · with_unfolding_all rfl
    · rw [sim]
    · rw [sim]; exact .of_eq hg
end Mine

theorem PySem.Challenge.cw_bv5002_01_holds : PySem.Challenge.rw_bv5002_01.Holds :=
  Mine.done
