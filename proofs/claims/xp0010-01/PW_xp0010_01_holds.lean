import PyProof.Rows.All
import Wide.All
import OpenK.AllK
import Wide.FinOn
import PySem.Challenge.RW_xp0010_01
open PySem PySem.W PyProof.Rows PySem.Calls
set_option Elab.async false
set_option maxRecDepth 100000
set_option maxHeartbeats 8000000
namespace Mine
/-- No head: it hands on what it is given. It stands here so that the written part of the heap, hd.heap_1, is laid ahead of the lemmas; the head itself is made in Fin. -/
theorem PySem.W.holds_open {r : OpenRow} {q : Program} {loose : List Str} {Xt : Shared → Bool} {XP : (Str → Option Value) → Heap → Prop} {α : Type} {Yf : Shared → α} {Ya : World → α} {YP : World → Heap → Prop} {N : Nat}
    (_left : ∀ w : World, (fun _ : World => 0) w = 0) (_hY : ∀ w s, Yf s = Ya w → YP w s.heap) (_hYk : ∀ w h h', YP w h → (∀ b o, h.get? b = some o → h'.get? b = some o) → YP w h')
    (_hX : ∀ s, Xt s = true → XP (s.heap.nsMap mainGlobals) s.heap) (_hXk : ∀ mg h h', XP mg h → (∀ b o, h.get? b = some o → h'.get? b = some o) → XP mg h')
    (_ : 0 = 0) (_ : 0 = 0) (_ : 0 = 0) (_ : ∀ s, Xt s = true → RecFacts r.records s.heap) (_ : 0 = 0) (_ : 0 = 0) (_ : 0 = 0) (_ : 0 = 0 ∧ 0 = 0 ∧ 0 = 0 ∧ 0 = 0 ∧ 0 = 0 ∧ 0 = 0) (_ : r.toRowW.promised)
    (walk : r.Holds) : r.Holds := walk
open_top hd for PySem.Challenge.rw_xp0010_01.row
section
/-- The codes that a bytearray, while it is being filled, asks the stack for. -/
def harmful : List String := ["bytearray.__contains__", "bytearray.__mod__", "bytearray.__rmod__", "_struct.pack_into.held", "bytearray.find.held"] ++ Builtin.Bytes.decodersThatHold
def goodC : Code → Bool
  | .builtin id _ => !harmful.contains id
  | _ => true
def GoodX (Γ : Ctx) : Prop := goodC Γ.code = true ∧ ∀ x ∈ Γ.below, goodC x.1 = true
/-- As wpAny, but only where no code that holds a bytearray is under way; and nothing is raised. -/
def wpR {α : Type} (M : Model) (A : Around) (t : Sem α) (Q : α → Shared → Prop) (s : Shared) : Prop :=
  ∀ Γ p, Γ.In A → GoodX Γ → Sem.wp M Γ t (fun a _ s' => Q a s') (fun _ _ _ => False) p s
def codeR (M : Model) (A : Around) (c : Code) (R : Flow → Shared → Prop) (s : Shared) : Prop :=
  ∀ Γ p, Γ.code = c → Γ.Below A → (∀ x ∈ Γ.below, goodC x.1 = true) → wpCode M Γ (fun r s' => ∃ f, r = .ok f ∧ R f s') p s
section
variable {α β : Type} {M : Model} {A : Around} {s : Shared}
theorem wpR_any {t : Sem α} {Q : α → Shared → Prop} (h : wpAny M A t Q (fun _ _ => False) s) : wpR M A t Q s := fun Γ p hΓ _ => h Γ p hΓ
theorem wpR_mono {t : Sem α} {Q Q' : α → Shared → Prop} (h : wpR M A t Q s) (hQ : ∀ a s, Q a s → Q' a s) : wpR M A t Q' s :=
  fun Γ p hΓ hg => Sem.wp_mono M Γ t (fun a _ s => hQ a s) (fun _ _ _ x => x) p s (h Γ p hΓ hg)
theorem wpR_pure {a : α} {Q : α → Shared → Prop} (h : Q a s) : wpR M A (pure a) Q s := fun _ _ _ _ => h
theorem wpR_bind {m : Sem α} {f : α → Sem β} {Q : β → Shared → Prop} (h : wpR M A m (fun a s' => wpR M A (f a) Q s') s) : wpR M A (m >>= f) Q s := fun Γ p hΓ hg => by
  rw [Sem.wp_bind']
  exact Sem.wp_mono M Γ m (fun a p' s' h' => h' Γ p' hΓ hg) (fun _ _ _ h' => h') p s (h Γ p hΓ hg)
/-- A first part by the library's rules, and what is behind it by these. -/
theorem wpR_anyBind {m : Sem α} {f : α → Sem β} {Q : β → Shared → Prop} (h : wpAny M A m (fun a s' => wpR M A (f a) Q s') (fun _ _ => False) s) : wpR M A (m >>= f) Q s := wpR_bind (wpR_any h)
theorem wpR_holding {vs : List Value} {m : Sem α} {Q : α → Shared → Prop} (h : wpR M A m Q s) : wpR M A (holding vs m) Q s := fun Γ p hΓ hg => by
  rw [Sem.wp_holding]; exact h Γ p hΓ hg
theorem wpR_keep {vs : List Value} {m : Sem α} {Q : α → Shared → Prop} (h : wpR M A m Q s) : wpR M A (m.keep vs) Q s := fun Γ p hΓ hg => by
  rw [Sem.wp_keep]; exact h Γ p hΓ hg
theorem wpR_onRaise {m : Sem α} {k : Value → Sem Unit} {Q : α → Shared → Prop} (h : wpR M A m Q s) : wpR M A (m.onRaise k) Q s := fun Γ p hΓ hg => by
  rw [Sem.wp_onRaise]
  exact Sem.wp_mono M Γ m (fun _ _ _ h' => h') (fun _ _ _ h' => h'.elim) p s (h Γ p hΓ hg)
theorem GoodX.enter {Γ : Ctx} (h : GoodX Γ) (c : Code) (hd : Option Value) (p : Pos) : ∀ x ∈ (Γ.enter c hd p).below, goodC x.1 = true := fun x hx => by
  rcases List.mem_cons.mp (show x ∈ (Γ.code, p) :: Γ.below from hx) with rfl | hx
  · exact h.1
  · exact h.2 x hx
theorem wpR_run {c : Code} {Q : Flow → Shared → Prop} (hc : codeR M A c Q s) : wpR M A (run c none) Q s := fun Γ p hΓ hg => by
  rw [Sem.wp_run]
  refine wpCode_mono (fun r s' ⟨f, e, hf⟩ => ?_) (hc _ p rfl (hΓ.enter c none p (by intro x; cases x)) (hg.enter c none p))
  subst e; exact hf
theorem wpR_call {f : Value} {pos : List Value} {kw : List (Str × Value)} {Q : Value → Shared → Prop}
    (hc : codeR M A (.call f ⟨pos, kw⟩) (fun fl s' => ∃ v, fl = .ret v ∧ Q v s') s) : wpR M A (call f pos kw) Q s := fun Γ p hΓ hg => by
  show Sem.wp M Γ (runValue _) _ _ p s
  rw [Sem.wp_runValue]
  refine wpCode_mono (fun r s' ⟨f, e, v, e', hv⟩ => ?_) (hc _ p rfl (hΓ.enter _ none p (by intro x; cases x)) (hg.enter _ none p))
  subst e; subst e'; exact hv
theorem codeR_any {c : Code} {R : Flow → Shared → Prop} (h : codeAny M A c (fun r s' => ∃ f, r = .ok f ∧ R f s') s) : codeR M A c R s := fun Γ p hc hΓ _ => h Γ p hc hΓ
theorem codeR_tree {c : Code} {R : Flow → Shared → Prop} (hgc : goodC c = true)
    (h : wpR M (A.under c) (M.den c) (fun fin s' => match fin with | .done f => R f s' | .again c' => c'.quiet = true ∧ codeR M A c' R s') s) : codeR M A c R s := fun Γ p hc hΓ hg => by
  rw [wpCode_iff_wp, hc]
  refine Sem.wp_mono M Γ _ (fun fin p' s' h' => ?_) (fun _ _ _ h' => h'.elim) p s (h Γ p (hc ▸ hΓ.in) ⟨hc ▸ hgc, hg⟩)
  cases fin with
  | done f => exact ⟨f, rfl, h'⟩
  | again c' => exact ⟨h'.1, h'.2 (Γ.goto c') p' rfl (hΓ.goto c') hg⟩
theorem wpR_stackAny {f : Code × Pos → Bool} {Q : Bool → Shared → Prop} (hf : ∀ c p, goodC c = true → f (c, p) = false) (h : Q false s) : wpR M A (do return (← stack).any f) Q s := fun Γ p _ hg => by
  show Q (((Γ.code, p) :: Γ.below).any f) s
  have e : ((Γ.code, p) :: Γ.below).any f = false := by
    rw [List.any_eq_false]
    intro x hx
    rcases List.mem_cons.mp hx with rfl | hx
    · rw [hf _ _ hg.1]; exact Bool.false_ne_true
    · obtain ⟨c, q⟩ := x
      rw [hf _ _ (hg.2 _ hx)]; exact Bool.false_ne_true
  rw [e]; exact h
end
theorem wpR_exported {M : Model} {A : Around} {s : Shared} {a : Addr} {Q : Bool → Shared → Prop} (h : Q false s) : wpR M A (Builtin.Bytes.exported (.ref a)) Q s := by
  unfold Builtin.Bytes.exported
  refine wpR_stackAny (fun c p hc => ?_) h
  have key : ∀ id args, c = .builtin id args → harmful.contains id = false := fun id args e => by subst e; simpa [goodC] using hc
  split
  all_goals first
    | rfl
    | (rename_i heq; have := key _ _ (congrArg Prod.fst heq); revert this; simp [harmful]; done)
    | (rename_i heq; have h1 := key _ _ (congrArg Prod.fst heq); simp only [harmful, List.contains_append, Bool.or_eq_false_iff] at h1; rw [h1.2, Bool.and_false])
end
/-- A tree that looks at the stack first: where a code that holds a bytearray is under way, it is something else. -/
def guardT {α : Type} (t e : Sem α) : Sem α := .stack fun st => if st.all (fun x => goodC x.1) then t else e
theorem wp_guardT {α : Type} {M : Model} {Γ : Ctx} {t e : Sem α} {Q : α → Pos → Shared → Prop} {E : Value → Pos → Shared → Prop} {p : Pos} {s : Shared} :
    Sem.wp M Γ (guardT t e) Q E p s = Sem.wp M Γ (if ((Γ.code, p) :: Γ.below).all (fun x => goodC x.1) then t else e) Q E p s := Sem.wp_stack ..
theorem good_all {Γ : Ctx} {p : Pos} : ((Γ.code, p) :: Γ.below).all (fun x => goodC x.1) = true ↔ GoodX Γ := by
  rw [List.all_cons, Bool.and_eq_true, List.all_eq_true]
  exact Iff.rfl
theorem wpAny_guardT {α : Type} {M : Model} {A : Around} {t e : Sem α} {Q : α → Shared → Prop} {E : Value → Shared → Prop} {s : Shared} (h : wpR M A t Q s) (he : wpAny M A e Q E s) : wpAny M A (guardT t e) Q E s := fun Γ p hΓ => by
  rw [wp_guardT]
  split
  · rename_i hg
    exact Sem.wp_mono M Γ t (fun _ _ _ x => x) (fun _ _ _ x => x.elim) p s (h Γ p hΓ (good_all.mp hg))
  · exact he Γ p hΓ
theorem stub_moves {p : Program} {w : World} {t e : Sem Fin} {s : Shared} (hz : s.asleep) {n : Nat} {o : Outcome} {s' : Shared}
    (h : schedN (denote table) p w n (.single s ⟨guardT t e, .builtin "claim.caller" {}, default, []⟩) = .halted o s') :
    ∃ n', schedN (denote table) p w n' (.single s ⟨t, .builtin "claim.caller" {}, default, []⟩) = .halted o s' := by
  cases n with
  | zero => cases h
  | succ n =>
    obtain ⟨heap, gens, drawn, toks, os⟩ := s
    have e1 : step (denote table) p w ⟨heap, gens, drawn, toks, os⟩ ⟨guardT t e, .builtin "claim.caller" {}, default, []⟩ = .go ⟨heap, gens, drawn, toks, os⟩ ⟨t, .builtin "claim.caller" {}, default, []⟩ := by
      simp only [guardT, step, List.map_nil]
      rw [if_pos (by decide +kernel)]
    have e2 := sstep_single (denote table) p w ⟨heap, gens, drawn, toks, os⟩ ⟨guardT t e, .builtin "claim.caller" {}, default, []⟩ rfl hz
    rcases e2 with e2 | e2
    · rw [e1] at e2
      have e3 : sstep (denote table) p w (.single ⟨heap, gens, drawn, toks, os⟩ ⟨guardT t e, .builtin "claim.caller" {}, default, []⟩) = .go (.single ⟨heap, gens, drawn, toks, os⟩ ⟨t, .builtin "claim.caller" {}, default, []⟩) := e2
      rw [schedN, e3] at h
      exact ⟨n, h⟩
    · rw [e1] at e2; cases e2
theorem holdsBy_moves {c : ClaimW} {defs kps : List Str} {writes : Bool} {t e : List Value → Sem Fin}
    (h : c.HoldsOpenBy (fun vs => ⟨guardT (t vs) (e vs), .builtin "claim.caller" {}, default, []⟩) defs kps writes) : c.HoldsOpenBy (fun vs => ⟨t vs, .builtin "claim.caller" {}, default, []⟩) defs kps writes := by
  obtain ⟨h1, h2, h3⟩ := h
  refine ⟨h1, h2, fun w => ⟨(h3 w).1, fun s hs => ?_⟩⟩
  obtain ⟨s₀, a1, a2, s₁, a3, a4, a5, a6, a7⟩ := (h3 w).2 s hs
  have A : AfterImport (opening c.prog) w s := hs
  have z : s₀.asleep := Shared.asleep_of_life (fence_lifeW a1) A.life
  have z1 : s₁.asleep := Shared.asleep_of_life a3.2.1 z
  refine ⟨s₀, a1, a2, s₁, a3, a4, a5, a6, fun args b1 b2 ord b3 => ?_⟩
  obtain ⟨vs, s₂, c1, n, o, s', c2, c3⟩ := a7 args b1 b2 ord b3
  have hal := layAllW_rest _ _ _ c1
  obtain ⟨n', c4⟩ := stub_moves (Shared.asleep_of_life hal.2.2.2 z1) c2
  exact ⟨vs, s₂, c1, n', o, s', c4, c3⟩
def runG (f : Value) (vs : List Value) : Sem Value := guardT (PySem.call f vs) (pure (.bool true))
theorem anew_Base : True := by
  w_top off
  exact True.intro
/-- The ranks 0..8 tell the nine things. -/
def sgn (n : Nat) : Nat := if n = 0 then 45 else if n = 1 then 60 else 62
def th (n : Nat) : Str := ⟨#[sgn (n / 3), sgn (n % 3)]⟩
inductive ThAre : List Value → List Nat → Prop
  | nil : ThAre [] []
  | cons (n : Nat) (t : Tok) {vs ns} : n < 9 → ThAre vs ns → ThAre (.str (th n) t :: vs) (n :: ns)
abbrev listObj (vs : List Value) (n : Nat) : Obj := { cls := .type "list", data := .seq vs.toArray n }
theorem ThAre.length {vs : List Value} {ns : List Nat} (h : ThAre vs ns) : vs.length = ns.length := by
  induction h with
  | nil => rfl
  | cons n t _ _ ih => simp [ih]
theorem ThAre.get {vs : List Value} {ns : List Nat} (h : ThAre vs ns) : ∀ (i n : Nat), ns[i]? = some n → n < 9 ∧ ∃ t, vs[i]? = some (.str (th n) t) := by
  induction h with
  | nil => intro i n h; simp at h
  | cons n t hn _ ih =>
    intro i k hk
    cases i with
    | zero => simp at hk; subst hk; exact ⟨hn, t, rfl⟩
    | succ i => simp at hk; simpa using ih i k hk
theorem ThAre.append {vs ws : List Value} {ns ms : List Nat} (h : ThAre vs ns) (g : ThAre ws ms) : ThAre (vs ++ ws) (ns ++ ms) := by
  induction h with
  | nil => exact g
  | cons n t hn _ ih => exact .cons n t hn ih
/-- What a def of the text does, called from any frame: args, keywords, the ledger ahead; the answer and the ledger behind. -/
def Does (w : World) (p : Program) (loose : List Str) (mean : PySem.ExcName → Option Value) (mg mb : Str → Option Value) (f : Addr) (D U : Nat) (args : List Value) (kw : List (Str × Value)) (news : List (Addr × Obj)) (Post : Value → List (Addr × Obj) → Prop) : Prop :=
  ∀ (dp un : Nat) (gd : Option (List Code)) (cn : Str) (cs : Scope) (a : Addr) (ccd : Value) (cl : List (Str × Addr)) (outer : List Env) (A₀ : Around) (base h₀ : Heap) (L : Addr) (m : Str → Option Value) (s : Shared) (Q E : Value → Shared → Prop),
    Below A₀ base outer h₀ → Fr h₀ L s.heap m → (hd.heap_1 w.params).In h₀ → Top p loose mean mg mb h₀ → cs.kind = .function → dp + D < recursionLimit → un + U < cLine → News h₀ L s.heap news →
    (∀ r news' h' tk', Fr h₀ L h' m → News h₀ L h' news' → Post r news' → Q r { s with heap := h', toks := tk' }) →
    wpAny (model PySem.Challenge.rw_xp0010_01.row.prog w) (ktrTop dp un gd cn cs L a ccd cl outer) (call (.ref f) args kw) Q E s
theorem anew_E1 : True := by
  w_top off
  exact True.intro
section
/-- One sign for a text: the plain law of a replace. -/
def rpl (c : Nat) (z l : List Nat) : List Nat := l.flatMap fun k => if k = c then z else [k]
theorem rpl_free (c : Nat) (z : List Nat) : ∀ l : List Nat, c ∉ l → rpl c z l = l
  | [], _ => rfl
  | k :: r, h => by
    have h1 : ¬ k = c := fun e => h (e ▸ List.mem_cons_self ..)
    have ih := rpl_free c z r fun m => h (List.mem_cons_of_mem _ m)
    unfold rpl at ih ⊢
    rw [List.flatMap_cons, if_neg h1, ih]; rfl
theorem rpl_append (c : Nat) (z a b : List Nat) : rpl c z (a ++ b) = rpl c z a ++ rpl c z b := List.flatMap_append
theorem rpl_join (c : Nat) (z : Str) : ∀ parts : List Str, (∀ p ∈ parts, c ∉ p.cps.toList) → rpl c z.cps.toList (Str.join ⟨#[c]⟩ parts).cps.toList = (Str.join z parts).cps.toList
  | [], _ => rfl
  | [p], h => rpl_free c _ _ (h p (List.mem_singleton.mpr rfl))
  | p :: q :: r, h => by
    have ih := rpl_join c z (q :: r) fun a ha => h a (List.mem_cons_of_mem _ ha)
    show rpl c z.cps.toList (p ++ ⟨#[c]⟩ ++ Str.join ⟨#[c]⟩ (q :: r)).cps.toList = (p ++ z ++ Str.join z (q :: r)).cps.toList
    simp only [Str.cps_append, Array.toList_append]
    rw [rpl_append, rpl_append, ih, rpl_free c _ _ (h p (List.mem_cons_self ..))]
    congr 2
    simp [rpl]
theorem replace_rpl (x z : Str) (c : Nat) : (Txt.replace x ⟨#[c]⟩ z).cps.toList = rpl c z.cps.toList x.cps.toList := by
  rw [StrLaws.replace_one, ← rpl_join c z _ (StrLaws.split_free x c), StrLaws.join_split]
theorem rpl_length (c : Nat) (z : List Nat) (hz : z.length ≤ 5) (hz1 : 1 ≤ z.length) : ∀ l : List Nat, (rpl c z l).length ≤ 5 * l.length
  | [] => by simp [rpl]
  | k :: r => by
    have ih := rpl_length c z hz hz1 r
    unfold rpl at ih ⊢
    rw [List.flatMap_cons, List.length_append, List.length_cons]
    by_cases h : k = c
    · rw [if_pos h]; omega
    · rw [if_neg h]; simp only [List.length_cons, List.length_nil]; omega
def nm (c : Nat) : List Nat := if c = 38 then [38, 97, 109, 112, 59] else if c = 60 then [38, 108, 116, 59] else if c = 62 then [38, 103, 116, 59] else [c]
def escL (l : List Nat) : List Nat := l.flatMap nm
def escS (x : Str) : Str := ⟨(escL x.cps.toList).toArray⟩
theorem esc_law (l : List Nat) : rpl 62 [38, 103, 116, 59] (rpl 60 [38, 108, 116, 59] (rpl 38 [38, 97, 109, 112, 59] l)) = escL l := by
  induction l with
  | nil => rfl
  | cons k r ih =>
    have e : ∀ (c : Nat) (z : List Nat) (a : Nat) (b : List Nat), rpl c z (a :: b) = (if a = c then z else [a]) ++ rpl c z b := fun c z a b => rfl
    rw [e, rpl_append, rpl_append, ih]
    unfold escL
    rw [List.flatMap_cons]
    congr 1
    unfold nm
    split
    · rfl
    · rename_i h1
      show rpl 62 _ (rpl 60 _ [k]) = _
      rw [e]
      split
      · rfl
      · rename_i h2
        show rpl 62 _ [k] = _
        rw [e]
        split
        · rfl
        · rfl
theorem str_ext {a b : Str} (h : a.cps.toList = b.cps.toList) : a = b := by
  obtain ⟨⟨a⟩⟩ := a; obtain ⟨⟨b⟩⟩ := b; simpa using h
theorem str_eq {y z : Str} {t : Tok} (h : y = z) : Value.str y t = Value.str z t := h ▸ rfl
/-- What the three ifs make of a text. -/
theorem not_in {x : Str} {c : Nat} (h : (Builtin.Str.occurrences x ⟨#[c]⟩ 0 x.length 1).isEmpty = true) : c ∉ x.cps.toList := by
  have := StrLaws.found_one x c
  rw [h] at this
  simpa using this
theorem amp_is : Str.ofString "&" = ⟨#[38]⟩ := by decide +kernel
theorem lt_is : Str.ofString "<" = ⟨#[60]⟩ := by decide +kernel
theorem gt_is : Str.ofString ">" = ⟨#[62]⟩ := by decide +kernel
theorem ampT_is : Str.ofString "&amp;" = ⟨#[38, 97, 109, 112, 59]⟩ := by decide +kernel
theorem ltT_is : Str.ofString "&lt;" = ⟨#[38, 108, 116, 59]⟩ := by decide +kernel
theorem gtT_is : Str.ofString "&gt;" = ⟨#[38, 103, 116, 59]⟩ := by decide +kernel
/-- y is x with c's replaced, whether by the call or as none is there. -/
def Rp (x : Str) (c : Nat) (z : List Nat) (y : Str) : Prop := y.cps.toList = rpl c z x.cps.toList
theorem Rp.none {x : Str} {c : Nat} {z : List Nat} (h : (Builtin.Str.occurrences x ⟨#[c]⟩ 0 x.length 1).isEmpty = true) : Rp x c z x := (rpl_free c z _ (not_in h)).symm
theorem Rp.some {x z : Str} {c : Nat} : Rp x c z.cps.toList (Txt.replace x ⟨#[c]⟩ z) := replace_rpl x z c
theorem Rp.len {x y : Str} {c : Nat} {z : List Nat} (h : Rp x c z y) (hz : z.length ≤ 5) (hz1 : 1 ≤ z.length) : y.length ≤ 5 * x.length := by
  have := rpl_length c z hz hz1 x.cps.toList
  unfold Rp at h
  rw [← h] at this
  simpa [Str.length] using this
theorem esc_of {x a b c : Str} (h1 : Rp x 38 [38, 97, 109, 112, 59] a) (h2 : Rp a 60 [38, 108, 116, 59] b) (h3 : Rp b 62 [38, 103, 116, 59] c) : c = escS x := by
  apply str_ext
  unfold Rp at *
  rw [h3, h2, h1, esc_law]; rfl
theorem gentoks_succ {α : Type} {M : Model} {A : Around} {t : Sem α} {Q : α → Shared → Prop} {E : Value → Shared → Prop} {h g d n os} (k : ∀ tk, 0 < tk → wpAny M A t Q E ⟨h, g, d, tk, os⟩) : wpAny M A t Q E ⟨h, g, d, n + 1, os⟩ := k _ (Nat.succ_pos n)
set_option compiler.extract_closed false in
local macro_rules | `(tactic| walk_at "execs cons") => `(tactic| (k_here; (with_reducible refine gentoks_succ ?_); intro tk htk))
set_option compiler.extract_closed false in
local macro_rules | `(tactic| walk_at "execs nil") => `(tactic| (k_here; (with_reducible refine gentoks_succ ?_); intro tk htk))
theorem replace_rp {prog : Program} {w : World} {A : Around} {E : Value → Shared → Prop} {s : Shared} {x y₀ z₀ : Str} {t u v : Tok} {Q : Value → Shared → Prop} {c : Nat} {z : List Nat} (hu : @LT.lt Nat instLTNat 0 u) (huv : @LT.lt Nat instLTNat u v)
    (hc : y₀ = ⟨#[c]⟩) (hz : z₀ = ⟨z.toArray⟩) (hn : z.length = 4 ∨ z.length = 5) (hz1 : (z == [c]) = false) (hx : x.length ≤ 30000)
    (hq : ∀ y t' k, Rp x c z y → y.length ≤ 5 * x.length → Q (.str y t') { s with toks := k }) : wpAny (model prog w) A (call (.builtin "str.replace") [.str x t, .str y₀ u, .str z₀ v]) Q E s := by
  subst hc hz
  have hl : (⟨z.toArray⟩ : Str).length ≤ 5 := by show z.toArray.size ≤ 5; simp; omega
  refine SC.replace (Nat.ne_of_gt hu) (Nat.ne_of_gt (Nat.lt_trans hu huv)) (Nat.ne_of_lt huv) ?_ ?_ fun t' k => ?_
  · cases hq : ((⟨#[c]⟩ : Str) == ⟨z.toArray⟩) with
    | false => rfl
    | true =>
      have e := eq_of_beq hq
      have e2 : [c] = z := by simpa using congrArg (fun s : Str => s.cps.toList) e
      rw [← e2] at hz1
      simp at hz1
  · have : (x.length + 1) * (⟨z.toArray⟩ : Str).length ≤ (x.length + 1) * 5 := Nat.mul_le_mul_left _ hl
    omega
  · have h := Rp.some (x := x) (z := ⟨z.toArray⟩) (c := c)
    refine hq _ t' k h (Rp.len h ?_ ?_) <;> simp <;> omega
set_option compiler.extract_closed false in
local macro_rules | `(tactic| walk_at "call builtin:str.replace") => `(tactic| (k_here; (first
  | refine replace_rp (c := 38) (z := [38, 97, 109, 112, 59]) (by omega) (by omega) amp_is ampT_is (by decide) (by decide) (by omega) ?_
  | refine replace_rp (c := 60) (z := [38, 108, 116, 59]) (by omega) (by omega) lt_is ltT_is (by decide) (by decide) (by omega) ?_
  | refine replace_rp (c := 62) (z := [38, 103, 116, 59]) (by omega) (by omega) gt_is gtT_is (by decide) (by decide) (by omega) ?_); intro y' t' k' hy' hyl'))
theorem escape_does (w : World) (p : Program) (loose : List Str) (mean : PySem.ExcName → Option Value) (mg mb : Str → Option Value) (x : Str) (tx : Tok) (news : List (Addr × Obj)) (hx : x.length ≤ 1000) :
    Does w p loose mean mg mb 35 1 8 [.str x tx] [] news (fun r news' => ∃ t', r = .str (escS x) t' ∧ news' = news) := by
  unfold Does
  k_fill
  intro dp un gd cn cs a ccd cl outer A₀ base h₀ L m s Q E B F X T hk hd hu N hret
  refine wpAny_call ?_
  k_dflt ktr_enter
  k_steps
  all_goals (
    simp only [amp_is, lt_is, gt_is] at *
    refine' hret _ _ _ _ ?f ?n ⟨_, str_eq (esc_of ?h1 ?h2 ?h3), rfl⟩
    (case f => assumption)
    (case n => assumption)
    (case h3 => first | assumption | exact Rp.none (by assumption))
    (case h2 => first | assumption | exact Rp.none (by assumption))
    (case h1 => first | assumption | exact Rp.none (by assumption)))
end
theorem anew_Rules : True := by
  w_top off
  exact True.intro
theorem look_ne {m : Str → Option Value} {x y : Str} {v : Value} {r : Option Value} (h : (y = x) = False) (e : m y = r) : (fun z => if z = x then some v else m z) y = r := (if_neg (by rw [h]; exact id)).trans e
theorem int_eq {a b : Nat} {t : Tok} (h : a = b) : Value.int a t = Value.int b t := h ▸ rfl
theorem look_eq {m : Str → Option Value} {x : Str} {v : Value} : (fun z => if z = x then some v else m z) x = some v := if_pos rfl
set_option compiler.extract_closed false in
local macro_rules | `(tactic| walk_at "m_look") => `(tactic| first | assumption | exact look_eq | (refine look_ne (eq_false (by decide)) ?_; walk_at "m_look") | exact rfl)
set_option compiler.extract_closed false in
local macro_rules | `(tactic| walk_at "execs cons") => `(tactic| (k_here; (with_reducible refine gentoks_succ ?_); intro tk htk; (try dsimp only)))
set_option compiler.extract_closed false in
local macro_rules | `(tactic| walk_at "execs nil") => `(tactic| (k_here; (with_reducible refine gentoks_succ ?_); intro tk htk; (try dsimp only)))
set_option compiler.extract_closed false in
local macro_rules | `(tactic| walk_at "m_mem") => `(tactic| first | assumption | k_mem)
set_option compiler.extract_closed false in
local macro_rules | `(tactic| walk_at "eval Name") => `(tactic| (k_here; k_dflt (refine' ld ?k1 ?k2 ?_; (case k1 => k_asm); (case k2 => walk_at "m_look"); k_whole)))
section
variable {prog : Program} {w : World} {A : Around} {E : Value → Shared → Prop} {s : Shared} {h₀ : Heap} {L l : Addr} {vs : List Value} {nn : Nat} {news : List (Addr × Obj)}
theorem len_L {Q : Value → Shared → Prop} (N : News h₀ L s.heap news) (hm : (l, listObj vs nn) ∈ news) (hfit : vs.length ≤ 100000) (h : ∀ t k, Q (.int vs.length t) { s with toks := k }) :
    wpAny (model prog w) A (call (.builtin "len") [.ref l]) Q E s := by
  have e : vs.toArray.size = vs.length := List.size_toArray
  exact Calls.call_len_list (News.isList N hm) (by rw [e]; omega) (by rw [e]; exact h _ _)
theorem item_L {value slice : Expr} {k : Int} {u : Tok} {v : Value} {Q : Value → Shared → Prop} (N : News h₀ L s.heap news) (hm : (l, listObj vs nn) ∈ news) (h0 : 0 ≤ k) (hk : k < 2 ^ 63) (hx : vs[k.toNat]? = some v) (h : Q v s)
    (hs : subscripted slice false (.ref l) (.int k u) = operate [.ref l, .int k u] (getItem (.ref l) (.int k u)) := by with_unfolding_all rfl) :
    wpAny (model prog w) A (subscriptTail value slice (.ref l) (.int k u)) Q E s :=
  tail_any (News.isList N hm).typeIs slot_list_getitem.lookup (wpAny_getItem_list (News.isList N hm) h0 hk (by simpa using hx) h) hs
end
set_option compiler.extract_closed false in
local macro_rules | `(tactic| walk_at "call builtin:len") => `(tactic| (k_here; (with_reducible show wpAny _ _ (call (Value.builtin "len") [Value.ref _]) _ _ _); k_dflt (refine' len_L ?N ?m ?f ?_; (case N => k_asm); (case m => walk_at "m_mem"); (case f => omega)); intro t' k'))
theorem th_lt : ∀ x < 9, ∀ y < 9, decide ((th x).cps.toList < (th y).cps.toList) = decide (x < y) := by decide +kernel
theorem esc_lt : ∀ x < 9, ∀ y < 9, decide ((escS (th x)).cps.toList < (escS (th y)).cps.toList) = decide (y < x) := by decide +kernel
theorem th_inj : ∀ x < 9, ∀ y < 9, th x = th y → x = y := by decide +kernel
theorem lt_th {prog : Program} {w : World} {A : Around} {E : Value → Shared → Prop} {s : Shared} {x y : Nat} {t u : Tok} {Q : Value → Shared → Prop} (hx : x < 9) (hy : y < 9) (h : Q (.bool (decide (x < y))) s) :
    wpAny (model prog w) A (compareOp .Lt (.str (th x) t) (.str (th y) u)) Q E s := lt_str (by rw [th_lt x hx y hy]; exact h)
theorem lt_esc {prog : Program} {w : World} {A : Around} {E : Value → Shared → Prop} {s : Shared} {x y : Nat} {t u : Tok} {Q : Value → Shared → Prop} (hx : x < 9) (hy : y < 9) (h : Q (.bool (decide (y < x))) s) :
    wpAny (model prog w) A (compareOp .Lt (.str (escS (th x)) t) (.str (escS (th y)) u)) Q E s := lt_str (by rw [esc_lt x hx y hy]; exact h)
set_option compiler.extract_closed false in
local macro_rules | `(tactic| walk_at "compareOp Lt str str") => `(tactic| (k_here; (with_reducible refine lt_th (by assumption) (by assumption) ?_)))
set_option compiler.extract_closed false in
local macro_rules | `(tactic| walk_at "compareOp Lt str str") => `(tactic| (k_here; (with_reducible refine lt_esc (by assumption) (by assumption) ?_)))
theorem anew_B1 : True := by
  w_top off
  exact True.intro
theorem split_count (p : Nat → Bool) : ∀ (ns : List Nat) (r : Nat), r ≤ ns.length → (∀ i k, i < r → ns[i]? = some k → p k = true) → (∀ i k, r ≤ i → ns[i]? = some k → p k = false) → ns.countP p = r
  | [], r, h, _, _ => by simp at h; simp [h]
  | a :: l, 0, _, _, h2 => by
    have ih := split_count p l 0 (Nat.zero_le _) (fun i k h => absurd h (Nat.not_lt_zero _)) fun i k _ e => h2 (i + 1) k (Nat.zero_le _) (by simpa using e)
    have ha := h2 0 a (Nat.le_refl _) rfl
    rw [List.countP_cons, ih, ha]; rfl
  | a :: l, r + 1, h, h1, h2 => by
    have ih := split_count p l r (by simpa using h) (fun i k hi e => h1 (i + 1) k (by omega) (by simpa using e)) fun i k hi e => h2 (i + 1) k (by omega) (by simpa using e)
    have ha := h1 0 a (Nat.succ_pos _) rfl
    rw [List.countP_cons, ih, ha]; rfl
/-- Where p holds it holds of all that is ahead. -/
def Falls (p : Nat → Bool) (ns : List Nat) : Prop := ∀ (i j a b : Nat), i ≤ j → ns[i]? = some a → ns[j]? = some b → p b = true → p a = true
/-- Between two turns of the halving. -/
def BSpan (p : Nat → Bool) (ns : List Nat) (lo hi : Nat) : Prop := lo ≤ hi ∧ hi ≤ ns.length ∧ (∀ i k, i < lo → ns[i]? = some k → p k = true) ∧ ∀ i k, hi ≤ i → ns[i]? = some k → p k = false
theorem BSpan.start {p : Nat → Bool} {ns : List Nat} : BSpan p ns 0 ns.length := ⟨Nat.zero_le _, Nat.le_refl _, fun i k h => absurd h (Nat.not_lt_zero _), fun i k h e => by rw [List.getElem?_eq_none (by omega)] at e; cases e⟩
theorem BSpan.left {p : Nat → Bool} {ns : List Nat} {lo hi mid n : Nat} (hf : Falls p ns) (h : BSpan p ns lo hi) (h1 : lo ≤ mid) (h2 : mid < hi) (e : ns[mid]? = some n) (hp : p n = false) : BSpan p ns lo mid :=
  ⟨h1, by have := h.2.1; omega, h.2.2.1, fun i k hi e' => by
    cases hk : p k with
    | false => rfl
    | true => rw [hf mid i n k hi e e' hk] at hp; cases hp⟩
theorem BSpan.right {p : Nat → Bool} {ns : List Nat} {lo hi mid n : Nat} (hf : Falls p ns) (h : BSpan p ns lo hi) (h1 : lo ≤ mid) (h2 : mid < hi) (e : ns[mid]? = some n) (hp : p n = true) : BSpan p ns (mid + 1) hi :=
  ⟨by omega, h.2.1, fun i k hi e' => hf i mid k n (by omega) e' e hp, h.2.2.2⟩
theorem BSpan.count {p : Nat → Bool} {ns : List Nat} {lo hi : Nat} (h : BSpan p ns lo hi) (e : ¬ lo < hi) : ns.countP p = lo :=
  split_count p ns lo (Nat.le_trans h.1 h.2.1) h.2.2.1 fun i k hi => h.2.2.2 i k (by have := h.1; omega)
theorem falls_le {ns : List Nat} {x : Nat} (hs : ns.Pairwise (· ≤ ·)) : Falls (fun k => decide (k ≤ x)) ns := by
  intro i j a b hij ha hb hp
  have hle : a ≤ b := by
    rcases Nat.lt_or_eq_of_le hij with h | rfl
    · obtain ⟨hi, rfl⟩ := List.getElem?_eq_some_iff.mp ha
      obtain ⟨hj, rfl⟩ := List.getElem?_eq_some_iff.mp hb
      exact (List.pairwise_iff_getElem.mp hs) i j hi hj h
    · rw [ha] at hb; cases hb; exact Nat.le_refl _
  simp only [decide_eq_true_eq] at hp ⊢
  omega
theorem falls_ge {ns : List Nat} {x : Nat} (hs : ns.Pairwise (· ≥ ·)) : Falls (fun k => decide (x ≤ k)) ns := by
  intro i j a b hij ha hb hp
  have hle : b ≤ a := by
    rcases Nat.lt_or_eq_of_le hij with h | rfl
    · obtain ⟨hi, rfl⟩ := List.getElem?_eq_some_iff.mp ha
      obtain ⟨hj, rfl⟩ := List.getElem?_eq_some_iff.mp hb
      exact (List.pairwise_iff_getElem.mp hs) i j hi hj h
    · rw [ha] at hb; cases hb; exact Nat.le_refl _
  simp only [decide_eq_true_eq] at hp ⊢
  omega
theorem mid_is {lo hi : Nat} (h : lo < hi) : ∃ mid : Nat, ((lo : Int) + hi).fdiv 2 = mid ∧ lo ≤ mid ∧ mid < hi := by
  refine ⟨(lo + hi) / 2, ?_, by omega, by omega⟩
  rw [Int.fdiv_eq_ediv_of_nonneg _ (by omega)]; omega
/-- The while of bisect_right without a key. -/
def BJ (l : Addr) (x : Nat) (tx : Tok) (p : Nat → Bool) (ns : List Nat) (led : List (Addr × Obj)) (n : Nat) (m : Str → Option Value) (news : List (Addr × Obj)) : Prop :=
  ∃ (lo hi : Nat) (tlo thi : Tok), m "a" = some (.ref l) ∧ m "x" = some (.str (th x) tx) ∧ m "key" = some .none ∧ m "lo" = some (.int lo tlo) ∧ m "hi" = some (.int hi thi) ∧ news = led ∧ BSpan p ns lo hi ∧ n = hi - lo
theorem bisect_does (w : World) (p : Program) (loose : List Str) (mean : PySem.ExcName → Option Value) (mg mb : Str → Option Value) (l : Addr) (vs : List Value) (ns : List Nat) (nn : Nat) (rest : List (Addr × Obj)) (x : Nat) (tx : Tok) (hx : x < 9)
    (hv : ThAre vs ns) (hs : ns.Pairwise (· ≤ ·)) (hlen : ns.length ≤ 1000) :
    Does w p loose mean mg mb 53 1 8 [.ref l, .str (th x) tx] [] ((l, listObj vs nn) :: rest) (fun r news' => ∃ t, r = .int (ns.countP (fun k => decide (k ≤ x)) : Nat) t ∧ news' = (l, listObj vs nn) :: rest) := by
  unfold Does
  k_fill
  intro dp un gd cn cs a ccd cl outer A₀ base h₀ L m s Q E B F X T hk hd hu N hret
  have hvl := hv.length
  refine wpAny_call ?_
  (k_dflt (refine' code_def ?k1 ?k2 ?k3 ?k4 ?k5 ?kA ?kF ?kK ?k6 ?k7 ?k8 ?k9 ?kB ?_ ?c2 ?c3 ?c4 ?c5; (case kA => exact rfl); (case kF => exact rfl); (case kK => assumption); (case k1 => k_asm); (case k2 => k_asm); (case k3 => k_asm); (case k4 => k_asm); (case k5 => k_asm); (case k6 => k_is); (case k7 => k_is); (case k8 => ktr_room); (case k9 => first | exact BindsTo.of_eq rfl | exact binds_K (by k_in) rfl (by k_is) rfl rfl rfl | (refine' kp_binds ?kx ?ke; (case kx => k_in); (case ke => exact fun _ => rfl))); (case c5 => decide); (case kB => exact locs rfl); (case c2 => exact rfl); (case c3 => exact rfl); (case c4 => exact rfl); k_whole; intro _ _ _ _ _ _ _ _ _; (try dsimp only); (try k_fold)))
  (repeat' (first | (k_unfold; (try dsimp only)) | ((((fail_if_success (with_reducible show wpAny _ _ (exec (Stmt.While _ _ _ _) _) _ _ _)); (fail_if_success (with_reducible show wpAny _ _ (exec (Stmt.For _ _ _ _ _) _) _ _ _)); (fail_if_success (with_reducible show wpAny _ _ (pyIter _) _ _ _)))); walk1) | ((((fail_if_success (with_reducible show wpAny _ _ (exec (Stmt.While _ _ _ _) _) _ _ _)); (fail_if_success (with_reducible show wpAny _ _ (exec (Stmt.For _ _ _ _ _) _) _ _ _)); (fail_if_success (with_reducible show wpAny _ _ (pyIter _) _ _ _)))); dsimp only; walk1) | fail "no step"))
  refine While_inv (n₀ := ns.length) (BJ l x tx (fun k => decide (k ≤ x)) ns ((l, listObj vs nn) :: rest)) (by k_asm) (by k_asm) ⟨0, ns.length, _, _, by walk_at "m_look", by walk_at "m_look", by walk_at "m_look", by walk_at "m_look", by rw [← hvl]; walk_at "m_look", rfl, BSpan.start, rfl⟩ ?_
  rintro n m₁ news₁ h₁ tk₁ F₁ N₁ ⟨lo, hi, tlo, thi, ha, hxx, hkey, hlo, hhi, rfl, hsp, hn⟩
  (repeat' (first | (k_unfold; (try dsimp only)) | ((((fail_if_success (with_reducible show wpAny _ _ (exec (Stmt.While _ _ _ _) _) _ _ _)); (fail_if_success (with_reducible show wpAny _ _ (exec (Stmt.For _ _ _ _ _) _) _ _ _)); (fail_if_success (with_reducible show wpAny _ _ (pyIter _) _ _ _)))); walk1) | ((((fail_if_success (with_reducible show wpAny _ _ (exec (Stmt.While _ _ _ _) _) _ _ _)); (fail_if_success (with_reducible show wpAny _ _ (exec (Stmt.For _ _ _ _ _) _) _ _ _)); (fail_if_success (with_reducible show wpAny _ _ (pyIter _) _ _ _)))); dsimp only; walk1) | fail "no step"))
  · obtain ⟨mid, hmid, h1, h2⟩ := mid_is (lo := lo) (hi := hi) (by omega)
    simp only [hmid] at *
    have hle := hsp.2.1
    obtain ⟨k, hk⟩ : ∃ k, ns[mid]? = some k := ⟨_, List.getElem?_eq_getElem (by omega)⟩
    obtain ⟨hk9, tkk, hvk⟩ := hv.get mid k hk
    refine item_L (by k_asm) (by walk_at "m_mem") (by omega) (by omega) hvk ?_
    (repeat' (first | (k_unfold; (try dsimp only)) | ((((fail_if_success (with_reducible show wpAny _ _ (exec (Stmt.While _ _ _ _) _) _ _ _)); (fail_if_success (with_reducible show wpAny _ _ (exec (Stmt.For _ _ _ _ _) _) _ _ _)); (fail_if_success (with_reducible show wpAny _ _ (pyIter _) _ _ _)))); walk1) | ((((fail_if_success (with_reducible show wpAny _ _ (exec (Stmt.While _ _ _ _) _) _ _ _)); (fail_if_success (with_reducible show wpAny _ _ (exec (Stmt.For _ _ _ _ _) _) _ _ _)); (fail_if_success (with_reducible show wpAny _ _ (pyIter _) _ _ _)))); dsimp only; walk1) | fail "no step"))
    · refine WhileStep.intro (by k_asm) (by k_asm) ?_ ⟨lo, mid, _, _, by walk_at "m_look", by walk_at "m_look", by walk_at "m_look", by walk_at "m_look", by walk_at "m_look", rfl, hsp.left (falls_le hs) h1 h2 hk (decide_eq_false (by omega)), rfl⟩
      omega
    · refine WhileStep.intro (by k_asm) (by k_asm) ?_ ⟨mid + 1, hi, _, _, by walk_at "m_look", by walk_at "m_look", by walk_at "m_look", by walk_at "m_look", by walk_at "m_look", rfl, hsp.right (falls_le hs) h1 h2 hk (decide_eq_true (by omega)), rfl⟩
      omega
  · exact hret _ _ _ _ (by assumption) (by assumption) ⟨_, int_eq (hsp.count (by omega)).symm, rfl⟩
theorem anew_Use : True := by
  w_top off
  exact True.intro
section
variable {w : World} {p : Program} {loose : List Str} {mean : PySem.ExcName → Option Value} {mg mb : Str → Option Value} {f : Addr} {D U : Nat} {args : List Value} {kw : List (Str × Value)} {news : List (Addr × Obj)} {Post : Value → List (Addr × Obj) → Prop}
theorem Does.use {dp un : Nat} {gd : Option (List Code)} {cn : Str} {cs : Scope} {a : Addr} {ccd : Value} {cl : List (Str × Addr)} {outer : List Env} {A₀ : Around} {base h₀ : Heap} {L : Addr} {m : Str → Option Value} {s : Shared} {Q E : Value → Shared → Prop}
    (C : Does w p loose mean mg mb f D U args kw news Post) (B : Below A₀ base outer h₀) (F : Fr h₀ L s.heap m) (X : (hd.heap_1 w.params).In h₀) (T : Top p loose mean mg mb h₀) (hk : cs.kind = .function) (hd : dp + D < recursionLimit) (hu : un + U < cLine) (N : News h₀ L s.heap news)
    (ret : ∀ r news' h' tk', Fr h₀ L h' m → News h₀ L h' news' → Post r news' → Q r { s with heap := h', toks := tk' }) :
    wpAny (model PySem.Challenge.rw_xp0010_01.row.prog w) (ktrTop dp un gd cn cs L a ccd cl outer) (call (.ref f) args kw) Q E s := C _ _ _ _ _ _ _ _ _ _ _ _ _ _ _ _ _ B F X T hk hd hu N ret
/-- The same; what the frame holds is found by itself. -/
theorem Does.useA {dp un : Nat} {gd : Option (List Code)} {cn : Str} {cs : Scope} {a : Addr} {ccd : Value} {cl : List (Str × Addr)} {outer : List Env} {A₀ : Around} {base h₀ : Heap} {L : Addr} {m : Str → Option Value} {s : Shared} {Q E : Value → Shared → Prop}
    (C : Does w p loose mean mg mb f D U args kw news Post) (ret : ∀ r news' h' tk', Fr h₀ L h' m → News h₀ L h' news' → Post r news' → Q r { s with heap := h', toks := tk' })
    (B : Below A₀ base outer h₀ := by k_asm) (F : Fr h₀ L s.heap m := by k_asm) (X : (hd.heap_1 w.params).In h₀ := by k_asm) (T : Top p loose mean mg mb h₀ := by k_asm) (N : News h₀ L s.heap news := by k_asm) (hk : cs.kind = .function := by first | exact rfl | assumption) (hd : dp + D < recursionLimit := by ktr_room) (hu : un + U < cLine := by ktr_units) :
    wpAny (model PySem.Challenge.rw_xp0010_01.row.prog w) (ktrTop dp un gd cn cs L a ccd cl outer) (call (.ref f) args kw) Q E s := C _ _ _ _ _ _ _ _ _ _ _ _ _ _ _ _ _ B F X T hk hd hu N ret
end
theorem th_len (n : Nat) : (th n).length ≤ 1000 := by show (2 : Nat) ≤ 1000; omega
set_option compiler.extract_closed false in
local macro_rules | `(tactic| walk_at "call ref") => `(tactic| (k_here; (with_reducible show wpAny _ _ (call (Value.ref 35) _ _) _ _ _); k_dflt (refine' Does.useA (escape_does _ _ _ _ _ _ _ _ _ ?hx) ?_; (case hx => first | exact th_len _ | assumption)); intro r9 news9 h9 tk9 F9 N9 hp9; obtain ⟨t9, e9, e8⟩ := hp9; subst e9; subst e8; (try dsimp only)))
theorem anew_B2 : True := by
  w_top off
  exact True.intro
/-- The while of bisect_right with a key. -/
def BJk (l : Addr) (x : Nat) (tx : Tok) (key : Value) (p : Nat → Bool) (ns : List Nat) (led : List (Addr × Obj)) (n : Nat) (m : Str → Option Value) (news : List (Addr × Obj)) : Prop :=
  ∃ (lo hi : Nat) (tlo thi : Tok), m "a" = some (.ref l) ∧ m "x" = some (.str (escS (th x)) tx) ∧ m "key" = some key ∧ m "lo" = some (.int lo tlo) ∧ m "hi" = some (.int hi thi) ∧ news = led ∧ BSpan p ns lo hi ∧ n = hi - lo
theorem bisect_key_does (w : World) (p : Program) (loose : List Str) (mean : PySem.ExcName → Option Value) (mg mb : Str → Option Value) (l : Addr) (vs : List Value) (ns : List Nat) (nn : Nat) (rest : List (Addr × Obj)) (x : Nat) (tx t0 : Tok) (hx : x < 9)
    (hv : ThAre vs ns) (hs : ns.Pairwise (· ≥ ·)) (hlen : ns.length ≤ 1000) :
    Does w p loose mean mg mb 53 3 32 [.ref l, .str (escS (th x)) tx, .int 0 t0, .none] [(Str.ofString "key", .ref 35)] ((l, listObj vs nn) :: rest) (fun r news' => ∃ t, r = .int (ns.countP (fun k => decide (x ≤ k)) : Nat) t ∧ news' = (l, listObj vs nn) :: rest) := by
  unfold Does
  k_fill
  intro dp un gd cn cs a ccd cl outer A₀ base h₀ L m s Q E B F X T hk hd hu N hret
  have hvl := hv.length
  refine wpAny_call ?_
  (k_dflt (refine' code_def ?k1 ?k2 ?k3 ?k4 ?k5 ?kA ?kF ?kK ?k6 ?k7 ?k8 ?k9 ?kB ?_ ?c2 ?c3 ?c4 ?c5; (case kA => exact rfl); (case kF => exact rfl); (case kK => assumption); (case k1 => k_asm); (case k2 => k_asm); (case k3 => k_asm); (case k4 => k_asm); (case k5 => k_asm); (case k6 => k_is); (case k7 => k_is); (case k8 => ktr_room); (case k9 => first | exact BindsTo.of_eq rfl | exact binds_K (by k_in) rfl (by k_is) rfl rfl rfl | (refine' kp_binds ?kx ?ke; (case kx => k_in); (case ke => exact fun _ => rfl))); (case c5 => decide); (case kB => exact locs rfl); (case c2 => exact rfl); (case c3 => exact rfl); (case c4 => exact rfl); k_whole; intro _ _ _ _ _ _ _ _ _; (try dsimp only); (try k_fold)))
  (repeat' (first | (k_unfold; (try dsimp only)) | ((((fail_if_success (with_reducible show wpAny _ _ (exec (Stmt.While _ _ _ _) _) _ _ _)); (fail_if_success (with_reducible show wpAny _ _ (exec (Stmt.For _ _ _ _ _) _) _ _ _)); (fail_if_success (with_reducible show wpAny _ _ (pyIter _) _ _ _)))); walk1) | ((((fail_if_success (with_reducible show wpAny _ _ (exec (Stmt.While _ _ _ _) _) _ _ _)); (fail_if_success (with_reducible show wpAny _ _ (exec (Stmt.For _ _ _ _ _) _) _ _ _)); (fail_if_success (with_reducible show wpAny _ _ (pyIter _) _ _ _)))); dsimp only; walk1) | fail "no step"))
  refine While_inv (n₀ := ns.length) (BJk l x tx (.ref 35) (fun k => decide (x ≤ k)) ns ((l, listObj vs nn) :: rest)) (by k_asm) (by k_asm) ⟨0, ns.length, _, _, by walk_at "m_look", by walk_at "m_look", by walk_at "m_look", by walk_at "m_look", by rw [← hvl]; walk_at "m_look", rfl, BSpan.start, rfl⟩ ?_
  rintro n m₁ news₁ h₁ tk₁ F₁ N₁ ⟨lo, hi, tlo, thi, ha, hxx, hkey, hlo, hhi, rfl, hsp, hn⟩
  (repeat' (first | (k_unfold; (try dsimp only)) | ((((fail_if_success (with_reducible show wpAny _ _ (exec (Stmt.While _ _ _ _) _) _ _ _)); (fail_if_success (with_reducible show wpAny _ _ (exec (Stmt.For _ _ _ _ _) _) _ _ _)); (fail_if_success (with_reducible show wpAny _ _ (pyIter _) _ _ _)))); walk1) | ((((fail_if_success (with_reducible show wpAny _ _ (exec (Stmt.While _ _ _ _) _) _ _ _)); (fail_if_success (with_reducible show wpAny _ _ (exec (Stmt.For _ _ _ _ _) _) _ _ _)); (fail_if_success (with_reducible show wpAny _ _ (pyIter _) _ _ _)))); dsimp only; walk1) | fail "no step"))
  · obtain ⟨mid, hmid, h1, h2⟩ := mid_is (lo := lo) (hi := hi) (by omega)
    simp only [hmid] at *
    have hle := hsp.2.1
    obtain ⟨k, hk⟩ : ∃ k, ns[mid]? = some k := ⟨_, List.getElem?_eq_getElem (by omega)⟩
    obtain ⟨hk9, tkk, hvk⟩ := hv.get mid k hk
    refine item_L (by k_asm) (by walk_at "m_mem") (by omega) (by omega) hvk ?_
    (repeat' (first | (k_unfold; (try dsimp only)) | ((((fail_if_success (with_reducible show wpAny _ _ (exec (Stmt.While _ _ _ _) _) _ _ _)); (fail_if_success (with_reducible show wpAny _ _ (exec (Stmt.For _ _ _ _ _) _) _ _ _)); (fail_if_success (with_reducible show wpAny _ _ (pyIter _) _ _ _)))); walk1) | ((((fail_if_success (with_reducible show wpAny _ _ (exec (Stmt.While _ _ _ _) _) _ _ _)); (fail_if_success (with_reducible show wpAny _ _ (exec (Stmt.For _ _ _ _ _) _) _ _ _)); (fail_if_success (with_reducible show wpAny _ _ (pyIter _) _ _ _)))); dsimp only; walk1) | fail "no step"))
    · refine WhileStep.intro (by k_asm) (by k_asm) ?_ ⟨lo, mid, _, _, by walk_at "m_look", by walk_at "m_look", by walk_at "m_look", by walk_at "m_look", by walk_at "m_look", rfl, hsp.left (falls_ge hs) h1 h2 hk (decide_eq_false (by omega)), rfl⟩
      omega
    · refine WhileStep.intro (by k_asm) (by k_asm) ?_ ⟨mid + 1, hi, _, _, by walk_at "m_look", by walk_at "m_look", by walk_at "m_look", by walk_at "m_look", by walk_at "m_look", rfl, hsp.right (falls_ge hs) h1 h2 hk (decide_eq_true (by omega)), rfl⟩
      omega
  · exact hret _ _ _ _ (by assumption) (by assumption) ⟨_, int_eq (hsp.count (by omega)).symm, rfl⟩
theorem anew_B3 : True := by
  w_top off
  exact True.intro
theorem bisect4_does (w : World) (p : Program) (loose : List Str) (mean : PySem.ExcName → Option Value) (mg mb : Str → Option Value) (l : Addr) (vs : List Value) (ns : List Nat) (nn : Nat) (rest : List (Addr × Obj)) (x : Nat) (tx t0 : Tok) (hx : x < 9)
    (hv : ThAre vs ns) (hs : ns.Pairwise (· ≤ ·)) (hlen : ns.length ≤ 1000) :
    Does w p loose mean mg mb 53 1 8 [.ref l, .str (th x) tx, .int 0 t0, .none] [] ((l, listObj vs nn) :: rest) (fun r news' => ∃ t, r = .int (ns.countP (fun k => decide (k ≤ x)) : Nat) t ∧ news' = (l, listObj vs nn) :: rest) := by
  unfold Does
  k_fill
  intro dp un gd cn cs a ccd cl outer A₀ base h₀ L m s Q E B F X T hk hd hu N hret
  have hvl := hv.length
  refine wpAny_call ?_
  (k_dflt (refine' code_def ?k1 ?k2 ?k3 ?k4 ?k5 ?kA ?kF ?kK ?k6 ?k7 ?k8 ?k9 ?kB ?_ ?c2 ?c3 ?c4 ?c5; (case kA => exact rfl); (case kF => exact rfl); (case kK => assumption); (case k1 => k_asm); (case k2 => k_asm); (case k3 => k_asm); (case k4 => k_asm); (case k5 => k_asm); (case k6 => k_is); (case k7 => k_is); (case k8 => ktr_room); (case k9 => first | exact BindsTo.of_eq rfl | exact binds_K (by k_in) rfl (by k_is) rfl rfl rfl | (refine' kp_binds ?kx ?ke; (case kx => k_in); (case ke => exact fun _ => rfl))); (case c5 => decide); (case kB => exact locs rfl); (case c2 => exact rfl); (case c3 => exact rfl); (case c4 => exact rfl); k_whole; intro _ _ _ _ _ _ _ _ _; (try dsimp only); (try k_fold)))
  (repeat' (first | (k_unfold; (try dsimp only)) | ((((fail_if_success (with_reducible show wpAny _ _ (exec (Stmt.While _ _ _ _) _) _ _ _)); (fail_if_success (with_reducible show wpAny _ _ (exec (Stmt.For _ _ _ _ _) _) _ _ _)); (fail_if_success (with_reducible show wpAny _ _ (pyIter _) _ _ _)))); walk1) | ((((fail_if_success (with_reducible show wpAny _ _ (exec (Stmt.While _ _ _ _) _) _ _ _)); (fail_if_success (with_reducible show wpAny _ _ (exec (Stmt.For _ _ _ _ _) _) _ _ _)); (fail_if_success (with_reducible show wpAny _ _ (pyIter _) _ _ _)))); dsimp only; walk1) | fail "no step"))
  refine While_inv (n₀ := ns.length) (BJ l x tx (fun k => decide (k ≤ x)) ns ((l, listObj vs nn) :: rest)) (by k_asm) (by k_asm) ⟨0, ns.length, _, _, by walk_at "m_look", by walk_at "m_look", by walk_at "m_look", by walk_at "m_look", by rw [← hvl]; walk_at "m_look", rfl, BSpan.start, rfl⟩ ?_
  rintro n m₁ news₁ h₁ tk₁ F₁ N₁ ⟨lo, hi, tlo, thi, ha, hxx, hkey, hlo, hhi, rfl, hsp, hn⟩
  (repeat' (first | (k_unfold; (try dsimp only)) | ((((fail_if_success (with_reducible show wpAny _ _ (exec (Stmt.While _ _ _ _) _) _ _ _)); (fail_if_success (with_reducible show wpAny _ _ (exec (Stmt.For _ _ _ _ _) _) _ _ _)); (fail_if_success (with_reducible show wpAny _ _ (pyIter _) _ _ _)))); walk1) | ((((fail_if_success (with_reducible show wpAny _ _ (exec (Stmt.While _ _ _ _) _) _ _ _)); (fail_if_success (with_reducible show wpAny _ _ (exec (Stmt.For _ _ _ _ _) _) _ _ _)); (fail_if_success (with_reducible show wpAny _ _ (pyIter _) _ _ _)))); dsimp only; walk1) | fail "no step"))
  · obtain ⟨mid, hmid, h1, h2⟩ := mid_is (lo := lo) (hi := hi) (by omega)
    simp only [hmid] at *
    have hle := hsp.2.1
    obtain ⟨k, hk⟩ : ∃ k, ns[mid]? = some k := ⟨_, List.getElem?_eq_getElem (by omega)⟩
    obtain ⟨hk9, tkk, hvk⟩ := hv.get mid k hk
    refine item_L (by k_asm) (by walk_at "m_mem") (by omega) (by omega) hvk ?_
    (repeat' (first | (k_unfold; (try dsimp only)) | ((((fail_if_success (with_reducible show wpAny _ _ (exec (Stmt.While _ _ _ _) _) _ _ _)); (fail_if_success (with_reducible show wpAny _ _ (exec (Stmt.For _ _ _ _ _) _) _ _ _)); (fail_if_success (with_reducible show wpAny _ _ (pyIter _) _ _ _)))); walk1) | ((((fail_if_success (with_reducible show wpAny _ _ (exec (Stmt.While _ _ _ _) _) _ _ _)); (fail_if_success (with_reducible show wpAny _ _ (exec (Stmt.For _ _ _ _ _) _) _ _ _)); (fail_if_success (with_reducible show wpAny _ _ (pyIter _) _ _ _)))); dsimp only; walk1) | fail "no step"))
    · refine WhileStep.intro (by k_asm) (by k_asm) ?_ ⟨lo, mid, _, _, by walk_at "m_look", by walk_at "m_look", by walk_at "m_look", by walk_at "m_look", by walk_at "m_look", rfl, hsp.left (falls_le hs) h1 h2 hk (decide_eq_false (by omega)), rfl⟩
      omega
    · refine WhileStep.intro (by k_asm) (by k_asm) ?_ ⟨mid + 1, hi, _, _, by walk_at "m_look", by walk_at "m_look", by walk_at "m_look", by walk_at "m_look", by walk_at "m_look", rfl, hsp.right (falls_le hs) h1 h2 hk (decide_eq_true (by omega)), rfl⟩
      omega
  · exact hret _ _ _ _ (by assumption) (by assumption) ⟨_, int_eq (hsp.count (by omega)).symm, rfl⟩
theorem anew_I1 : True := by
  w_top off
  exact True.intro
theorem ThAre.take {vs : List Value} {ns : List Nat} (h : ThAre vs ns) : ∀ k, ThAre (vs.take k) (ns.take k) := by
  induction h with
  | nil => intro k; simp; exact .nil
  | cons n t hn _ ih =>
    intro k
    cases k with
    | zero => exact .nil
    | succ k => exact .cons n t hn (ih k)
theorem ThAre.drop {vs : List Value} {ns : List Nat} (h : ThAre vs ns) : ∀ k, ThAre (vs.drop k) (ns.drop k) := by
  induction h with
  | nil => intro k; simp; exact .nil
  | cons n t hn hr ih =>
    intro k
    cases k with
    | zero => exact .cons n t hn hr
    | succ k => exact ih k
theorem ins_take {vs : List Value} {k : Nat} {y : Value} (hk : k ≤ vs.length) : kl_ins vs (k : Int) y = vs.take k ++ y :: vs.drop k := by
  unfold kl_ins
  rw [if_neg (by omega)]
  have : min ((k : Int).toNat) vs.length = k := by omega
  rw [this]
theorem ThAre.ins {vs : List Value} {ns : List Nat} {x k : Nat} {t : Tok} (h : ThAre vs ns) (hx : x < 9) (hk : k ≤ ns.length) : ThAre (kl_ins vs (k : Int) (.str (th x) t)) (ns.take k ++ x :: ns.drop k) := by
  rw [ins_take (by rw [h.length]; exact hk)]
  exact (h.take k).append (.cons x t hx (h.drop k))
theorem count_le (p : Nat → Bool) (ns : List Nat) : ns.countP p ≤ ns.length := List.countP_le_length
set_option compiler.extract_closed false in
local macro_rules | `(tactic| walk_at "call ref") => `(tactic| (k_here; (with_reducible show wpAny _ _ (call (Value.ref 53) [_, Value.str (escS _) _, _, _] _) _ _ _); k_dflt (refine' Does.useA (bisect_key_does _ _ _ _ _ _ _ _ _ _ _ _ _ _ ?hx ?hv ?hs ?hl) ?_; (case hv => assumption); (case hs => assumption); (case hx => assumption); (case hl => omega)); intro r9 news9 h9 tk9 F9 N9 hp9; obtain ⟨t9, e9, e8⟩ := hp9; subst e9; subst e8; (try dsimp only)))
set_option compiler.extract_closed false in
local macro_rules | `(tactic| walk_at "call ref") => `(tactic| (k_here; (with_reducible show wpAny _ _ (call (Value.ref 53) [_, Value.str (th _) _, _, _] _) _ _ _); k_dflt (refine' Does.useA (bisect4_does _ _ _ _ _ _ _ _ _ _ _ _ _ _ ?hx ?hv ?hs ?hl) ?_; (case hv => assumption); (case hs => assumption); (case hx => assumption); (case hl => omega)); intro r9 news9 h9 tk9 F9 N9 hp9; obtain ⟨t9, e9, e8⟩ := hp9; subst e9; subst e8; (try dsimp only)))
theorem insort_key_does (w : World) (p : Program) (loose : List Str) (mean : PySem.ExcName → Option Value) (mg mb : Str → Option Value) (l : Addr) (vs : List Value) (ns : List Nat) (nn : Nat) (rest : List (Addr × Obj)) (x : Nat) (tx : Tok) (hx : x < 9)
    (hv : ThAre vs ns) (hs : ns.Pairwise (· ≥ ·)) (hlen : ns.length ≤ 1000) (hoff : ∀ p ∈ rest, p.1 ≠ l) :
    Does w p loose mean mg mb 44 5 64 [.ref l, .str (th x) tx] [(Str.ofString "key", .ref 35)] ((l, listObj vs nn) :: rest) (fun r news' => ∃ vs' nn', r = .none ∧ news' = (l, listObj vs' nn') :: rest ∧ ThAre vs' (ns.take (ns.countP (fun k => decide (x ≤ k))) ++ x :: ns.drop (ns.countP (fun k => decide (x ≤ k))))) := by
  unfold Does
  k_fill
  intro dp un gd cn cs a ccd cl outer A₀ base h₀ L m s Q E B F X T hk hd hu N hret
  have hvl := hv.length
  refine wpAny_call ?_
  (k_dflt (refine' code_def ?k1 ?k2 ?k3 ?k4 ?k5 ?kA ?kF ?kK ?k6 ?k7 ?k8 ?k9 ?kB ?_ ?c2 ?c3 ?c4 ?c5; (case kA => exact rfl); (case kF => exact rfl); (case kK => assumption); (case k1 => k_asm); (case k2 => k_asm); (case k3 => k_asm); (case k4 => k_asm); (case k5 => k_asm); (case k6 => k_is); (case k7 => k_is); (case k8 => ktr_room); (case k9 => first | exact BindsTo.of_eq rfl | exact binds_K (by k_in) rfl (by k_is) rfl rfl rfl | (refine' kp_binds ?kx ?ke; (case kx => k_in); (case ke => exact fun _ => rfl))); (case c5 => decide); (case kB => exact locs rfl); (case c2 => exact rfl); (case c3 => exact rfl); (case c4 => exact rfl); k_whole; intro _ _ _ _ _ _ _ _ _; (try dsimp only); (try k_fold)))
  (repeat' (first | (k_unfold; (try dsimp only)) | ((((fail_if_success (with_reducible show wpAny _ _ (exec (Stmt.While _ _ _ _) _) _ _ _)); (fail_if_success (with_reducible show wpAny _ _ (exec (Stmt.For _ _ _ _ _) _) _ _ _)); (fail_if_success (with_reducible show wpAny _ _ (pyIter _) _ _ _)))); walk1) | ((((fail_if_success (with_reducible show wpAny _ _ (exec (Stmt.While _ _ _ _) _) _ _ _)); (fail_if_success (with_reducible show wpAny _ _ (exec (Stmt.For _ _ _ _ _) _) _ _ _)); (fail_if_success (with_reducible show wpAny _ _ (pyIter _) _ _ _)))); dsimp only; walk1) | fail "no step"))
  refine kl_insert (by k_asm) (by k_asm) ?_ rfl (Upd.head hoff) ?_ fun h9 F9 N9 => ?_
  · simp only [Builtin.List.listFitsIndex]
    have := count_le (fun k => decide (x ≤ k)) ns
    simp
    omega
  · have e : vs.toArray.toList.length = vs.length := rfl
    rw [e, sizeLine_eq]; omega
  (repeat' (first | (k_unfold; (try dsimp only)) | ((((fail_if_success (with_reducible show wpAny _ _ (exec (Stmt.While _ _ _ _) _) _ _ _)); (fail_if_success (with_reducible show wpAny _ _ (exec (Stmt.For _ _ _ _ _) _) _ _ _)); (fail_if_success (with_reducible show wpAny _ _ (pyIter _) _ _ _)))); walk1) | ((((fail_if_success (with_reducible show wpAny _ _ (exec (Stmt.While _ _ _ _) _) _ _ _)); (fail_if_success (with_reducible show wpAny _ _ (exec (Stmt.For _ _ _ _ _) _) _ _ _)); (fail_if_success (with_reducible show wpAny _ _ (pyIter _) _ _ _)))); dsimp only; walk1) | fail "no step"))
  exact hret _ _ _ _ (by assumption) (by assumption) ⟨_, _, rfl, rfl, hv.ins hx (count_le _ _)⟩
theorem insort_does (w : World) (p : Program) (loose : List Str) (mean : PySem.ExcName → Option Value) (mg mb : Str → Option Value) (l : Addr) (vs : List Value) (ns : List Nat) (nn : Nat) (rest : List (Addr × Obj)) (x : Nat) (tx : Tok) (hx : x < 9)
    (hv : ThAre vs ns) (hs : ns.Pairwise (· ≤ ·)) (hlen : ns.length ≤ 1000) (hoff : ∀ p ∈ rest, p.1 ≠ l) :
    Does w p loose mean mg mb 44 5 64 [.ref l, .str (th x) tx] [] ((l, listObj vs nn) :: rest) (fun r news' => ∃ vs' nn', r = .none ∧ news' = (l, listObj vs' nn') :: rest ∧ ThAre vs' (ns.take (ns.countP (fun k => decide (k ≤ x))) ++ x :: ns.drop (ns.countP (fun k => decide (k ≤ x))))) := by
  unfold Does
  k_fill
  intro dp un gd cn cs a ccd cl outer A₀ base h₀ L m s Q E B F X T hk hd hu N hret
  have hvl := hv.length
  refine wpAny_call ?_
  (k_dflt (refine' code_def ?k1 ?k2 ?k3 ?k4 ?k5 ?kA ?kF ?kK ?k6 ?k7 ?k8 ?k9 ?kB ?_ ?c2 ?c3 ?c4 ?c5; (case kA => exact rfl); (case kF => exact rfl); (case kK => assumption); (case k1 => k_asm); (case k2 => k_asm); (case k3 => k_asm); (case k4 => k_asm); (case k5 => k_asm); (case k6 => k_is); (case k7 => k_is); (case k8 => ktr_room); (case k9 => first | exact BindsTo.of_eq rfl | exact binds_K (by k_in) rfl (by k_is) rfl rfl rfl | (refine' kp_binds ?kx ?ke; (case kx => k_in); (case ke => exact fun _ => rfl))); (case c5 => decide); (case kB => exact locs rfl); (case c2 => exact rfl); (case c3 => exact rfl); (case c4 => exact rfl); k_whole; intro _ _ _ _ _ _ _ _ _; (try dsimp only); (try k_fold)))
  (repeat' (first | (k_unfold; (try dsimp only)) | ((((fail_if_success (with_reducible show wpAny _ _ (exec (Stmt.While _ _ _ _) _) _ _ _)); (fail_if_success (with_reducible show wpAny _ _ (exec (Stmt.For _ _ _ _ _) _) _ _ _)); (fail_if_success (with_reducible show wpAny _ _ (pyIter _) _ _ _)))); walk1) | ((((fail_if_success (with_reducible show wpAny _ _ (exec (Stmt.While _ _ _ _) _) _ _ _)); (fail_if_success (with_reducible show wpAny _ _ (exec (Stmt.For _ _ _ _ _) _) _ _ _)); (fail_if_success (with_reducible show wpAny _ _ (pyIter _) _ _ _)))); dsimp only; walk1) | fail "no step"))
  refine kl_insert (by k_asm) (by k_asm) ?_ rfl (Upd.head hoff) ?_ fun h9 F9 N9 => ?_
  · simp only [Builtin.List.listFitsIndex]
    have := count_le (fun k => decide (k ≤ x)) ns
    simp
    omega
  · have e : vs.toArray.toList.length = vs.length := rfl
    rw [e, sizeLine_eq]; omega
  (repeat' (first | (k_unfold; (try dsimp only)) | ((((fail_if_success (with_reducible show wpAny _ _ (exec (Stmt.While _ _ _ _) _) _ _ _)); (fail_if_success (with_reducible show wpAny _ _ (exec (Stmt.For _ _ _ _ _) _) _ _ _)); (fail_if_success (with_reducible show wpAny _ _ (pyIter _) _ _ _)))); walk1) | ((((fail_if_success (with_reducible show wpAny _ _ (exec (Stmt.While _ _ _ _) _) _ _ _)); (fail_if_success (with_reducible show wpAny _ _ (exec (Stmt.For _ _ _ _ _) _) _ _ _)); (fail_if_success (with_reducible show wpAny _ _ (pyIter _) _ _ _)))); dsimp only; walk1) | fail "no step"))
  exact hret _ _ _ _ (by assumption) (by assumption) ⟨_, _, rfl, rfl, hv.ins hx (count_le _ _)⟩
theorem anew_Loop : True := by
  w_top off
  exact True.intro
def TurnEnd (h₀ : Heap) (L : Addr) (Jn : (Str → Option Value) → List (Addr × Obj) → Prop) (I : Addr) (oI : Obj) (s₁ : Shared) (Q : Flow → Shared → Prop) (f : Flow) (s₂ : Shared) : Prop :=
  match f with
  | .ret v => Q (.ret v) s₂
  | .brk => Q .next s₂
  | _ => ∃ h' tk m' news', s₂ = { s₁ with heap := h', toks := tk } ∧ Fr h₀ L h' m' ∧ News h₀ L h' ((I, oI) :: news') ∧ (∀ p ∈ news', p.1 ≠ I) ∧ Jn m' news'
theorem TurnEnd.next {h₀ : Heap} {L : Addr} {Jn : (Str → Option Value) → List (Addr × Obj) → Prop} {I : Addr} {oI : Obj} {s₁ : Shared} {Q : Flow → Shared → Prop} {h' : Heap} {tk : Nat} {m' : Str → Option Value} {news' : List (Addr × Obj)}
    (F : Fr h₀ L h' m') (N : News h₀ L h' ((I, oI) :: news')) (ho : ∀ p ∈ news', p.1 ≠ I) (hJ : Jn m' news') : TurnEnd h₀ L Jn I oI s₁ Q .next { s₁ with heap := h', toks := tk } := ⟨h', tk, m', news', rfl, F, N, ho, hJ⟩
section
variable {prog : Program} {w : World} {A : Around} {E : Value → Shared → Prop} {s : Shared} {env : Env} {h₀ : Heap} {x : Str} {body : List Stmt} {Q : Flow → Shared → Prop}
theorem loop_list {l : Addr} {vs : List Value} {nn : Nat} {m₀ : Str → Option Value} {news : List (Addr × Obj)} (J : Nat → (Str → Option Value) → List (Addr × Obj) → Prop)
    (hh : A.handled = none) (F : Fr h₀ env.locals s.heap m₀) (N : News h₀ env.locals s.heap news) (hj : J 0 m₀ news) (hl : ∀ i m₁ news₁, J i m₁ news₁ → (l, listObj vs nn) ∈ news₁)
    (turn : ∀ i v m₁ news₁ h tk I oI, vs[i]? = some v → J i m₁ news₁ → (∀ p ∈ news₁, p.1 ≠ I) → Fr h₀ env.locals h (fun y => if y = x then some v else m₁ y) → News h₀ env.locals h ((I, oI) :: news₁) →
      wpAny (model prog w) A (execs body env) (TurnEnd h₀ env.locals (J (i + 1)) I oI { s with heap := h, toks := tk } Q) E { s with heap := h, toks := tk })
    (done : ∀ m₁ news₁ h tk, J vs.length m₁ news₁ → Fr h₀ env.locals h m₁ → News h₀ env.locals h news₁ → Q .next { s with heap := h, toks := tk }) :
    wpAny (model prog w) A (pyIter (.ref l)) (fun it s₂ => LoopAtV prog w A h₀ env x body Q E it s₂) E s := by
  have hlm := hl 0 _ _ hj
  have hls : s.heap.IsList l vs.toArray := News.isList N hlm
  have hlt : l < s.heap.objs.size := Heap.lt_size (N _ hlm).1
  have hne : l ≠ s.heap.objs.size := Nat.ne_of_lt hlt
  have hl0 : h₀.get? l = none := (N _ hlm).2.2
  refine wpAny_pyIter_list hls ?_
  have W := Walks.list (prog := prog) (w := w) hh s.heap.objs.size l hne vs.toArray
  have hlen : vs.toArray.size = vs.length := List.size_toArray
  rw [hlen] at W
  have hI0 : h₀.get? s.heap.objs.size = none := next_is_new F
  refine ⟨_, _, _, vs.length, _, _, m₀, news, J, rfl, W, ?_, ?_, ?_, ⟨⟨_, Heap.get?_push_size _ rfl, rfl, rfl⟩, hls.at fun o e => Heap.get?_push_of_some _ e⟩, F.push _, (fun p hp => ⟨Heap.get?_push_of_some _ (N p hp).1, (N p hp).2⟩), hj, ?_, ?_⟩
  · intro hm
    rcases List.mem_cons.mp hm with e | hm
    · exact absurd F.ns.lt (e ▸ Nat.lt_irrefl _)
    · exact (N _ hlm).2.1 (List.mem_singleton.mp hm).symm
  · intro b hb
    rw [List.mem_singleton.mp hb]
    exact hI0
  · intro p hp hI
    exact absurd (Heap.lt_size (N p hp).1) ((List.mem_singleton.mp hI) ▸ Nat.lt_irrefl _)
  · rintro i v m₁ news₁ s₁ own ⟨hh', tk', rfl⟩ hin hP hJ hoff hown hownv hall hst F₁ N₁
    have hv : vs[i]? = some v := by simpa using hP
    have hoff' : ∀ p ∈ news₁, p.1 ≠ s.heap.objs.size := fun p hp e => hoff p hp (List.mem_singleton.mpr e)
    obtain ⟨oI, hoI, _⟩ := hst.1
    have hmI : (s.heap.objs.size, oI) ∈ own := hall _ (List.mem_cons_self ..) hI0 _ hoI
    have N₂ : News h₀ env.locals hh' ((s.heap.objs.size, oI) :: news₁) := fun p hp => by
      rcases List.mem_cons.mp hp with rfl | hp
      · exact N₁ _ (List.mem_append_left _ hmI)
      · exact N₁ _ (List.mem_append_right _ hp)
    refine wpAny_mono (turn i v m₁ news₁ hh' tk' _ oI hv hJ hoff' F₁ N₂) (fun f s₂ p => ?_) fun _ _ e => e
    have fin : (∃ h' tk m' news', s₂ = { s with heap := h', toks := tk } ∧ Fr h₀ env.locals h' m' ∧ News h₀ env.locals h' ((s.heap.objs.size, oI) :: news') ∧ (∀ p ∈ news', p.1 ≠ s.heap.objs.size) ∧ J (i + 1) m' news') →
        LoopStepU h₀ env.locals [s.heap.objs.size] own (J (i + 1)) { s with heap := hh', toks := tk' } .next s₂ := by
      rintro ⟨h', tk, m', news', e, F', N', ho, hm⟩
      refine ⟨rfl, h', tk, m', news', e, F', fun p hp => ?_, fun p hp hq => ho p hp (List.mem_singleton.mp hq), hm⟩
      rcases List.mem_append.mp hp with hp | hp
      · rcases List.mem_cons.mp (hown p hp) with e1 | e1
        · have e2 := hownv p hp
          rw [e1] at e2
          have e3 : p = (s.heap.objs.size, oI) := by
            have := e2.symm.trans hoI
            exact Prod.ext e1 (Option.some.inj this)
          rw [e3]; exact N' _ (List.mem_cons_self ..)
        · have e1 := List.mem_singleton.mp e1
          have hlm' := hl _ _ _ hJ
          have hlm2 := hl _ _ _ hm
          have e2 := hownv p hp
          rw [e1] at e2
          have e3 : p = (l, listObj vs nn) := Prod.ext e1 (Option.some.inj (e2.symm.trans (N₂ _ (List.mem_cons_of_mem _ hlm')).1))
          rw [e3]; exact N' _ (List.mem_cons_of_mem _ hlm2)
      · exact N' _ (List.mem_cons_of_mem _ hp)
    cases f with
    | ret v => exact .ret p
    | brk => exact .brk p
    | next => exact .next (fin p)
    | cont => exact .cont (fin p)
  · rintro h' tk m' news' F' N' _ hJ
    exact done m' news' h' tk hJ F' N'
theorem For_list {m₀ : Str → Option Value} {px pos ppos : Pos} {l : Addr} {vs : List Value} {nn : Nat} {news : List (Addr × Obj)} {ln : Str} (J : Nat → (Str → Option Value) → List (Addr × Obj) → Prop)
    (hh : A.handled = none) (F : Fr h₀ env.locals s.heap m₀) (N : News h₀ env.locals s.heap news) (hj : J 0 m₀ news) (hl : ∀ i m₁ news₁, J i m₁ news₁ → (l, listObj vs nn) ∈ news₁)
    (turn : ∀ i v m₁ news₁ h tk I oI, vs[i]? = some v → J i m₁ news₁ → (∀ p ∈ news₁, p.1 ≠ I) → Fr h₀ env.locals h (fun y => if y = x then some v else m₁ y) → News h₀ env.locals h ((I, oI) :: news₁) →
      wpAny (model prog w) A (execs body env) (TurnEnd h₀ env.locals (J (i + 1)) I oI { s with heap := h, toks := tk } Q) E { s with heap := h, toks := tk })
    (done : ∀ m₁ news₁ h tk, J vs.length m₁ news₁ → Fr h₀ env.locals h m₁ → News h₀ env.locals h news₁ → Q .next { s with heap := h, toks := tk })
    (hln : m₀ ln = some (.ref l)) (hx : env.kindOf x = some .local := by rfl) (hlk : env.kindOf ln = some .local := by rfl) (hk : env.scope.kind = .function := by rfl)
    (hd : (ln == ("__debug__" : Str)) = false := by decide)
    (hE : PassesOwn (model prog w) A env E := by passes_own) :
    wpAny (model prog w) A (exec (.For (.Name x px) (.Name ln ppos) body [] pos) env) Q E s := by
  refine For_invV h₀ hx (by rw [hk]; rfl) ?_ (fun _ => rfl) hE
  exact wpAny_Name (wpAny_loadName_local hk hlk F.ns hln (loop_list J hh F N hj hl turn done)) hd
end
theorem anew_Wr : True := by
  w_top off
  exact True.intro
theorem News.sub {h₀ h : Heap} {L : Addr} {l l' : List (Addr × Obj)} (N : News h₀ L h l) (hs : ∀ p ∈ l', p ∈ l) : News h₀ L h l' := fun p hp => N p (hs p hp)
theorem News.swap {h₀ h : Heap} {L : Addr} {a b : Addr × Obj} {l : List (Addr × Obj)} (N : News h₀ L h (a :: b :: l)) : News h₀ L h (b :: a :: l) := News.sub N fun p hp => by
  rcases List.mem_cons.mp hp with rfl | hp
  · exact .tail _ (.head _)
  · rcases List.mem_cons.mp hp with rfl | hp
    · exact .head _
    · exact .tail _ (.tail _ hp)
theorem off_cons {a b : Addr} {o : Obj} {l : List (Addr × Obj)} (h : a ≠ b) (hl : ∀ p ∈ l, p.1 ≠ b) : ∀ p ∈ (a, o) :: l, p.1 ≠ b := fun p hp => by
  rcases List.mem_cons.mp hp with rfl | hp
  · exact h
  · exact hl p hp
theorem ThAre.reverse {vs : List Value} {ns : List Nat} (h : ThAre vs ns) : ThAre vs.reverse ns.reverse := by
  induction h with
  | nil => exact .nil
  | cons n t hn _ ih => rw [List.reverse_cons, List.reverse_cons]; exact ih.append (.cons n t hn .nil)
set_option compiler.extract_closed false in
local macro_rules | `(tactic| walk_at "subscriptTail Name Slice ref ref") => `(tactic| (k_here; (with_reducible show wpAny _ _ (subscriptTail _ (PySem.Expr.Slice none none (some _) _) (Value.ref _) (Value.ref _)) _ _ _); k_dflt (refine' krv_lit ?F ?N ?l ?k rfl ?_ ?s ?t ?z; (case F => k_asm); (case N => k_asm); (case l => exact News.isList (by k_asm) (by walk_at "m_mem")); (case k => exact IsPart.int _ _); (case s => with_unfolding_all rfl); (case t => kmk_pure); (case z => (((try simp only [List.size_toArray]); rw [sizeLine_eq]; omega)))); intro D' h' F' N' l1))
set_option compiler.extract_closed false in
local macro_rules | `(tactic| walk_at "call ref") => `(tactic| (k_here; (with_reducible show wpAny _ _ (call (Value.ref 44) [_, _] _) _ _ _); k_dflt (refine' Does.useA (insort_key_does _ _ _ _ _ _ _ _ _ _ _ _ _ ?hx ?hv ?hs ?hl ?ho) ?_; (case hv => assumption); (case hs => assumption); (case hx => assumption); (case ho => assumption); (case hl => omega)); intro r9 news9 h9 tk9 F9 N9 hp9; obtain ⟨vs9, nn9, e9, e8, hv9⟩ := hp9; subst e9; subst e8; (try dsimp only)))
set_option compiler.extract_closed false in
local macro_rules | `(tactic| walk_at "call ref") => `(tactic| (k_here; (with_reducible show wpAny _ _ (call (Value.ref 44) [_, _] []) _ _ _); k_dflt (refine' Does.useA (insort_does _ _ _ _ _ _ _ _ _ _ _ _ _ ?hx ?hv ?hs ?hl ?ho) ?_; (case hv => assumption); (case hs => assumption); (case hx => assumption); (case ho => assumption); (case hl => omega)); intro r9 news9 h9 tk9 F9 N9 hp9; obtain ⟨vs9, nn9, e9, e8, hv9⟩ := hp9; subst e9; subst e8; (try dsimp only)))
theorem off_of_lt {d : Addr} : ∀ {l : List (Addr × Obj)}, AllLt d l → ∀ p ∈ l, p.1 ≠ d
  | [], _, _, hp => nomatch hp
  | _ :: _, h, _, .head _ => Nat.ne_of_lt h.1
  | _ :: _, h, _, .tail _ hp => off_of_lt h.2 _ hp
/-- A thing laid into a falling row, behind all that are as great. -/
def insD (ns : List Nat) (x : Nat) : List Nat := ns.take (ns.countP (fun k => decide (x ≤ k))) ++ x :: ns.drop (ns.countP (fun k => decide (x ≤ k)))
theorem count_split (p : Nat → Bool) (ns : List Nat) (hf : Falls p ns) : (∀ k ∈ ns.take (ns.countP p), p k = true) ∧ ∀ k ∈ ns.drop (ns.countP p), p k = false := by
  induction ns with
  | nil => simp
  | cons a l ih =>
    have hfl : Falls p l := fun i j b c hij hb hc => hf (i + 1) (j + 1) b c (by omega) (by simpa using hb) (by simpa using hc)
    have ih := ih hfl
    cases ha : p a with
    | true =>
      rw [List.countP_cons, ha]
      simp only [if_true, List.take_succ_cons, List.drop_succ_cons]
      exact ⟨fun k hk => (List.mem_cons.mp hk).elim (fun e => e ▸ ha) (ih.1 k), ih.2⟩
    | false =>
      have hall : ∀ k ∈ l, p k = false := fun k hk => by
        obtain ⟨j, hj, rfl⟩ := List.getElem_of_mem hk
        cases hp : p l[j] with
        | false => rfl
        | true => rw [hf 0 (j + 1) a l[j] (by omega) rfl (by simp [hj]) hp] at ha; cases ha
      have h0 : l.countP p = 0 := List.countP_eq_zero.mpr fun k hk => by rw [hall k hk]; exact Bool.false_ne_true
      rw [List.countP_cons, ha, h0]
      simp only [Bool.false_eq_true, if_false]
      exact ⟨fun k hk => by simp at hk, fun k hk => (List.mem_cons.mp hk).elim (fun e => by rw [e]; exact ha) (hall k)⟩
theorem insD_sorted {ns : List Nat} {x : Nat} (hs : ns.Pairwise (· ≥ ·)) : (insD ns x).Pairwise (· ≥ ·) := by
  obtain ⟨h1, h2⟩ := count_split _ ns (falls_ge (x := x) hs)
  unfold insD
  generalize ns.countP (fun k => decide (x ≤ k)) = c at h1 h2 ⊢
  rw [List.pairwise_append]
  refine ⟨hs.sublist (List.take_sublist _ _), List.pairwise_cons.mpr ⟨fun b hb => ?_, hs.sublist (List.drop_sublist _ _)⟩, fun a ha b hb => ?_⟩
  · have := h2 b hb; simp at this; omega
  · have h3 := h1 a ha
    simp at h3
    rcases List.mem_cons.mp hb with rfl | hb
    · exact h3
    · have := h2 b hb; simp at this; omega
theorem insD_length (ns : List Nat) (x : Nat) : (insD ns x).length = ns.length + 1 := by
  unfold insD
  have := List.countP_le_length (p := fun k => decide (x ≤ k)) (l := ns)
  simp only [List.length_append, List.length_cons, List.length_take, List.length_drop]
  omega
def sortD (ns : List Nat) : List Nat := ns.foldl insD []
theorem foldl_insD_sorted (ns : List Nat) : ∀ acc, acc.Pairwise (· ≥ ·) → (ns.foldl insD acc).Pairwise (· ≥ ·) := by
  induction ns with
  | nil => exact fun _ h => h
  | cons a l ih => exact fun acc h => ih _ (insD_sorted h)
theorem foldl_insD_length (ns : List Nat) : ∀ acc, (ns.foldl insD acc).length = acc.length + ns.length := by
  induction ns with
  | nil => simp
  | cons a l ih => intro acc; rw [List.foldl_cons, ih, insD_length, List.length_cons]; omega
def WrJ (l r : Addr) (vs : List Value) (nn : Nat) (ns : List Nat) (rest : List (Addr × Obj)) (i : Nat) (m : Str → Option Value) (news : List (Addr × Obj)) : Prop :=
  ∃ rv rn, m "things" = some (.ref l) ∧ m "row" = some (.ref r) ∧ news = (r, listObj rv rn) :: (l, listObj vs nn) :: rest ∧ ThAre rv ((ns.take i).foldl insD [])
theorem take_foldl {α : Type} (f : α → Nat → α) (a : α) (ns : List Nat) (i n : Nat) (h : ns[i]? = some n) : (ns.take (i + 1)).foldl f a = f ((ns.take i).foldl f a) n := by
  rw [List.take_add_one, h]; simp
theorem writings_does (w : World) (p : Program) (loose : List Str) (mean : PySem.ExcName → Option Value) (mg mb : Str → Option Value) (l : Addr) (vs : List Value) (ns : List Nat) (nn : Nat) (rest : List (Addr × Obj)) 
    (hv : ThAre vs ns) (hlen : ns.length ≤ 100) :
    Does w p loose mean mg mb 188 7 96 [.ref l] [] ((l, listObj vs nn) :: rest) (fun r news' => ∃ a vs', r = .ref a ∧ news' = (a, listObj vs' 0) :: (l, listObj vs nn) :: rest ∧ (∀ p ∈ (l, listObj vs nn) :: rest, p.1 ≠ a) ∧ ThAre vs' (sortD ns).reverse) := by
  unfold Does
  k_fill
  intro dp un gd cn cs a ccd cl outer A₀ base h₀ L m s Q E B F X T hk hd hu N hret
  have hvl := hv.length
  refine wpAny_call ?_
  (k_dflt (refine' code_def ?k1 ?k2 ?k3 ?k4 ?k5 ?kA ?kF ?kK ?k6 ?k7 ?k8 ?k9 ?kB ?_ ?c2 ?c3 ?c4 ?c5; (case kA => exact rfl); (case kF => exact rfl); (case kK => assumption); (case k1 => k_asm); (case k2 => k_asm); (case k3 => k_asm); (case k4 => k_asm); (case k5 => k_asm); (case k6 => k_is); (case k7 => k_is); (case k8 => ktr_room); (case k9 => first | exact BindsTo.of_eq rfl | exact binds_K (by k_in) rfl (by k_is) rfl rfl rfl | (refine' kp_binds ?kx ?ke; (case kx => k_in); (case ke => exact fun _ => rfl))); (case c5 => decide); (case kB => exact locs rfl); (case c2 => exact rfl); (case c3 => exact rfl); (case c4 => exact rfl); k_whole; intro _ _ _ _ _ _ _ _ _; (try dsimp only); (try k_fold)))
  (repeat' (first | (k_unfold; (try dsimp only)) | ((((fail_if_success (with_reducible show wpAny _ _ (exec (Stmt.While _ _ _ _) _) _ _ _)); (fail_if_success (with_reducible show wpAny _ _ (exec (Stmt.For _ _ _ _ _) _) _ _ _)); (fail_if_success (with_reducible show wpAny _ _ (pyIter _) _ _ _)))); walk1) | ((((fail_if_success (with_reducible show wpAny _ _ (exec (Stmt.While _ _ _ _) _) _ _ _)); (fail_if_success (with_reducible show wpAny _ _ (exec (Stmt.For _ _ _ _ _) _) _ _ _)); (fail_if_success (with_reducible show wpAny _ _ (pyIter _) _ _ _)))); dsimp only; walk1) | fail "no step"))
  rename_i r hh1 l1 hh F1 N1 tk1 htk1
  have hoff1 : ∀ p ∈ (l, listObj vs nn) :: rest, p.1 ≠ r := off_cons (Nat.ne_of_lt l1.1) (off_of_lt l1.2)
  refine For_list (l := l) (vs := vs) (nn := nn) (WrJ l r vs nn ns rest) rfl (by k_asm) (by k_asm) ⟨[], 0, by walk_at "m_look", by walk_at "m_look", rfl, by simpa using ThAre.nil⟩ ?_ ?_ ?_ (by walk_at "m_look")
  · rintro i m₁ news₁ ⟨rv, rn, _, _, rfl, _⟩
    exact .tail _ (.head _)
  · rintro i v m₁ news₁ h₁ tk₁ I oI hvi ⟨rv, rn, hth, hrow, rfl, hra⟩ hoI F₁ N₁
    obtain ⟨x, hx⟩ : ∃ x, ns[i]? = some x := ⟨_, List.getElem?_eq_getElem (by have := (List.getElem?_eq_some_iff.mp hvi).1; omega)⟩
    obtain ⟨hx9, tx, hxv⟩ := hv.get i x hx
    obtain rfl : v = .str (th x) tx := Option.some.inj (hvi.symm.trans hxv)
    have hrI : r ≠ I := hoI _ (.head _)
    have N₂ := News.sub N₁ (l' := (r, listObj rv rn) :: (I, oI) :: (l, listObj vs nn) :: rest) (by ((intro p hp; simp only [List.mem_cons, List.toList_toArray] at hp ⊢; grind)))
    clear N₁
    have hoff2 : ∀ p ∈ (I, oI) :: (l, listObj vs nn) :: rest, p.1 ≠ r := off_cons hrI.symm hoff1
    have hsr : ((ns.take i).foldl insD []).Pairwise (· ≥ ·) := foldl_insD_sorted _ _ .nil
    have hlr : ((ns.take i).foldl insD []).length ≤ 1000 := by rw [foldl_insD_length, List.length_take]; simp; omega
    (repeat' (first | (k_unfold; (try dsimp only)) | ((((fail_if_success (with_reducible show wpAny _ _ (exec (Stmt.While _ _ _ _) _) _ _ _)); (fail_if_success (with_reducible show wpAny _ _ (exec (Stmt.For _ _ _ _ _) _) _ _ _)); (fail_if_success (with_reducible show wpAny _ _ (pyIter _) _ _ _)))); walk1) | ((((fail_if_success (with_reducible show wpAny _ _ (exec (Stmt.While _ _ _ _) _) _ _ _)); (fail_if_success (with_reducible show wpAny _ _ (exec (Stmt.For _ _ _ _ _) _) _ _ _)); (fail_if_success (with_reducible show wpAny _ _ (pyIter _) _ _ _)))); dsimp only; walk1) | fail "no step"))
    refine TurnEnd.next (by k_asm) (News.swap (by k_asm)) (off_cons hrI (fun p hp => hoI p (.tail _ hp))) ⟨_, _, by walk_at "m_look", by walk_at "m_look", rfl, ?_⟩
    rw [take_foldl insD [] ns i x hx]; assumption
  · rintro m₁ news₁ h₁ tk₁ ⟨rv, rn, hth, hrow, rfl, hra⟩ F₁ N₁
    have hrl := hra.length
    rw [hvl, List.take_length, foldl_insD_length] at hrl
    simp only [List.length_nil, Nat.zero_add] at hrl
    rw [hvl, List.take_length] at hra
    (repeat' (first | (k_unfold; (try dsimp only)) | ((((fail_if_success (with_reducible show wpAny _ _ (exec (Stmt.While _ _ _ _) _) _ _ _)); (fail_if_success (with_reducible show wpAny _ _ (exec (Stmt.For _ _ _ _ _) _) _ _ _)); (fail_if_success (with_reducible show wpAny _ _ (pyIter _) _ _ _)))); walk1) | ((((fail_if_success (with_reducible show wpAny _ _ (exec (Stmt.While _ _ _ _) _) _ _ _)); (fail_if_success (with_reducible show wpAny _ _ (exec (Stmt.For _ _ _ _ _) _) _ _ _)); (fail_if_success (with_reducible show wpAny _ _ (pyIter _) _ _ _)))); dsimp only; walk1) | fail "no step"))
    rename_i D9 h9 F9 N9 l9 kF kN _ _
    exact hret _ _ _ _ (by assumption) (News.sub kN (by ((intro p hp; simp only [List.mem_cons, List.toList_toArray] at hp ⊢; grind)))) ⟨_, _, rfl, rfl, fun p hp => Nat.ne_of_lt (l9 p (.tail _ hp)), hra.reverse⟩
theorem anew_Ga : True := by
  w_top off
  exact True.intro
set_option compiler.extract_closed false in
local macro_rules | `(tactic| walk_at "call ref") => `(tactic| (k_here; (with_reducible show wpAny _ _ (call (Value.ref 53) [_, Value.str (th _) _] _) _ _ _); k_dflt (refine' Does.useA (bisect_does _ _ _ _ _ _ _ _ _ _ _ _ _ ?hx ?hv ?hs ?hl) ?_; (case hv => assumption); (case hs => assumption); (case hx => assumption); (case hl => omega)); intro r9 news9 h9 tk9 F9 N9 hp9; obtain ⟨t9, e9, e8⟩ := hp9; subst e9; subst e8; (try dsimp only)))
set_option compiler.extract_closed false in
local macro_rules | `(tactic| walk_at "loadName") => `(tactic| (k_here; k_dflt (refine' ldn ?k1 ?k2 ?_; (case k1 => k_asm); (case k2 => walk_at "m_look"); k_whole)))
/-- A thing laid into a rising row, behind all that are as small. -/
def insU (ns : List Nat) (x : Nat) : List Nat := ns.take (ns.countP (fun k => decide (k ≤ x))) ++ x :: ns.drop (ns.countP (fun k => decide (k ≤ x)))
theorem insU_sorted {ns : List Nat} {x : Nat} (hs : ns.Pairwise (· ≤ ·)) : (insU ns x).Pairwise (· ≤ ·) := by
  obtain ⟨h1, h2⟩ := count_split _ ns (falls_le (x := x) hs)
  unfold insU
  generalize ns.countP (fun k => decide (k ≤ x)) = c at h1 h2 ⊢
  rw [List.pairwise_append]
  refine ⟨hs.sublist (List.take_sublist _ _), List.pairwise_cons.mpr ⟨fun b hb => ?_, hs.sublist (List.drop_sublist _ _)⟩, fun a ha b hb => ?_⟩
  · have := h2 b hb; simp at this; omega
  · have h3 := h1 a ha
    simp at h3
    rcases List.mem_cons.mp hb with rfl | hb
    · exact h3
    · have := h2 b hb; simp at this; omega
theorem insU_length (ns : List Nat) (x : Nat) : (insU ns x).length = ns.length + 1 := by
  unfold insU
  have := List.countP_le_length (p := fun k => decide (k ≤ x)) (l := ns)
  simp only [List.length_append, List.length_cons, List.length_take, List.length_drop]
  omega
theorem foldl_insU_sorted (ns : List Nat) : ∀ acc, acc.Pairwise (· ≤ ·) → (ns.foldl insU acc).Pairwise (· ≤ ·) := by
  induction ns with
  | nil => exact fun _ h => h
  | cons a l ih => exact fun acc h => ih _ (insU_sorted h)
theorem foldl_insU_length (ns : List Nat) : ∀ acc, (ns.foldl insU acc).length = acc.length + ns.length := by
  induction ns with
  | nil => simp
  | cons a l ih => intro acc; rw [List.foldl_cons, ih, insU_length, List.length_cons]; omega
/-- One turn of the count of pairs with the greater one ahead. -/
def gaStep (acc : List Nat × Nat) (x : Nat) : List Nat × Nat := (insU acc.1 x, acc.2 + (acc.1.length - acc.1.countP (fun k => decide (k ≤ x))))
def gaF (ns : List Nat) : List Nat × Nat := ns.foldl gaStep ([], 0)
theorem gaF_fst (ns : List Nat) : ∀ acc : List Nat × Nat, (ns.foldl gaStep acc).1 = ns.foldl insU acc.1 := by
  induction ns with
  | nil => exact fun _ => rfl
  | cons a l ih => intro acc; rw [List.foldl_cons, List.foldl_cons, ih]; rfl
def GaJ (l r : Addr) (vs : List Value) (nn : Nat) (ns : List Nat) (rest : List (Addr × Obj)) (i : Nat) (m : Str → Option Value) (news : List (Addr × Obj)) : Prop :=
  ∃ rv rn tp, m "things" = some (.ref l) ∧ m "row" = some (.ref r) ∧ m "pairs" = some (.int ((gaF (ns.take i)).2 : Nat) tp) ∧ news = (r, listObj rv rn) :: (l, listObj vs nn) :: rest ∧ ThAre rv (gaF (ns.take i)).1
theorem look_int {o : Option Value} {z : Int} {k : Nat} {t : Tok} (h : o = some (.int z t)) (e : z = (k : Int)) : o = some (.int (k : Int) t) := e ▸ h
theorem greater_ahead_does (w : World) (p : Program) (loose : List Str) (mean : PySem.ExcName → Option Value) (mg mb : Str → Option Value) (l : Addr) (vs : List Value) (ns : List Nat) (nn : Nat) (rest : List (Addr × Obj)) 
    (hv : ThAre vs ns) (hlen : ns.length ≤ 100) :
    Does w p loose mean mg mb 174 7 96 [.ref l] [] ((l, listObj vs nn) :: rest) (fun r news' => ∃ t, r = .int ((gaF ns).2 : Nat) t ∧ news' = (l, listObj vs nn) :: rest) := by
  unfold Does
  k_fill
  intro dp un gd cn cs a ccd cl outer A₀ base h₀ L m s Q E B F X T hk hd hu N hret
  have hvl := hv.length
  refine wpAny_call ?_
  (k_dflt (refine' code_def ?k1 ?k2 ?k3 ?k4 ?k5 ?kA ?kF ?kK ?k6 ?k7 ?k8 ?k9 ?kB ?_ ?c2 ?c3 ?c4 ?c5; (case kA => exact rfl); (case kF => exact rfl); (case kK => assumption); (case k1 => k_asm); (case k2 => k_asm); (case k3 => k_asm); (case k4 => k_asm); (case k5 => k_asm); (case k6 => k_is); (case k7 => k_is); (case k8 => ktr_room); (case k9 => first | exact BindsTo.of_eq rfl | exact binds_K (by k_in) rfl (by k_is) rfl rfl rfl | (refine' kp_binds ?kx ?ke; (case kx => k_in); (case ke => exact fun _ => rfl))); (case c5 => decide); (case kB => exact locs rfl); (case c2 => exact rfl); (case c3 => exact rfl); (case c4 => exact rfl); k_whole; intro _ _ _ _ _ _ _ _ _; (try dsimp only); (try k_fold)))
  (repeat' (first | (k_unfold; (try dsimp only)) | ((((fail_if_success (with_reducible show wpAny _ _ (exec (Stmt.While _ _ _ _) _) _ _ _)); (fail_if_success (with_reducible show wpAny _ _ (exec (Stmt.For _ _ _ _ _) _) _ _ _)); (fail_if_success (with_reducible show wpAny _ _ (pyIter _) _ _ _)))); walk1) | ((((fail_if_success (with_reducible show wpAny _ _ (exec (Stmt.While _ _ _ _) _) _ _ _)); (fail_if_success (with_reducible show wpAny _ _ (exec (Stmt.For _ _ _ _ _) _) _ _ _)); (fail_if_success (with_reducible show wpAny _ _ (pyIter _) _ _ _)))); dsimp only; walk1) | fail "no step"))
  rename_i r _ l1 _ _ _ _ _ _ _ _
  have hoff1 : ∀ p ∈ (l, listObj vs nn) :: rest, p.1 ≠ r := off_cons (Nat.ne_of_lt l1.1) (off_of_lt l1.2)
  refine For_list (l := l) (vs := vs) (nn := nn) (GaJ l r vs nn ns rest) rfl (by k_asm) (by k_asm) ⟨[], 0, _, by walk_at "m_look", by walk_at "m_look", by walk_at "m_look", rfl, ThAre.nil⟩ ?_ ?_ ?_ (by walk_at "m_look")
  · rintro i m₁ news₁ ⟨rv, rn, tp, _, _, _, rfl, _⟩
    exact .tail _ (.head _)
  · rintro i v m₁ news₁ h₁ tk₁ I oI hvi ⟨rv, rn, tp, hth, hrow, hpr, rfl, hra⟩ hoI F₁ N₁
    obtain ⟨x, hx⟩ : ∃ x, ns[i]? = some x := ⟨_, List.getElem?_eq_getElem (by have := (List.getElem?_eq_some_iff.mp hvi).1; omega)⟩
    obtain ⟨hx9, tx, hxv⟩ := hv.get i x hx
    obtain rfl : v = .str (th x) tx := Option.some.inj (hvi.symm.trans hxv)
    have hrI : r ≠ I := hoI _ (.head _)
    have N₂ := News.swap N₁
    clear N₁
    have hoff2 : ∀ p ∈ (I, oI) :: (l, listObj vs nn) :: rest, p.1 ≠ r := off_cons hrI.symm hoff1
    have e1 : (gaF (ns.take i)).1 = (ns.take i).foldl insU [] := gaF_fst _ _
    have hsr : (gaF (ns.take i)).1.Pairwise (· ≤ ·) := by rw [e1]; exact foldl_insU_sorted _ _ .nil
    have hlr : (gaF (ns.take i)).1.length ≤ 1000 := by rw [e1, foldl_insU_length, List.length_take]; simp; omega
    have hrl := hra.length
    (repeat' (first | (k_unfold; (try dsimp only)) | ((((fail_if_success (with_reducible show wpAny _ _ (exec (Stmt.While _ _ _ _) _) _ _ _)); (fail_if_success (with_reducible show wpAny _ _ (exec (Stmt.For _ _ _ _ _) _) _ _ _)); (fail_if_success (with_reducible show wpAny _ _ (pyIter _) _ _ _)))); walk1) | ((((fail_if_success (with_reducible show wpAny _ _ (exec (Stmt.While _ _ _ _) _) _ _ _)); (fail_if_success (with_reducible show wpAny _ _ (exec (Stmt.For _ _ _ _ _) _) _ _ _)); (fail_if_success (with_reducible show wpAny _ _ (pyIter _) _ _ _)))); dsimp only; walk1) | fail "no step"))
    have e2 : gaF (ns.take (i + 1)) = gaStep (gaF (ns.take i)) x := take_foldl gaStep ([], 0) ns i x hx
    refine TurnEnd.next (by k_asm) (News.swap (by k_asm)) (off_cons hrI (fun p hp => hoI p (.tail _ hp))) ⟨_, _, ?ztp, by walk_at "m_look", by walk_at "m_look", ?zlk, rfl, ?zth⟩
    case zlk =>
      refine' look_int ?za ?zb
      case za => walk_at "m_look"
      case zb =>
        have h1 := count_le (fun k => decide (k ≤ x)) (gaF (ns.take i)).1
        rw [e2, hrl]
        simp only [gaStep]
        omega
    case zth => rw [e2]; assumption
  · rintro m₁ news₁ h₁ tk₁ ⟨rv, rn, tp, hth, hrow, hpr, rfl, hra⟩ F₁ N₁
    rw [hvl, List.take_length] at hpr
    (repeat' (first | (k_unfold; (try dsimp only)) | ((((fail_if_success (with_reducible show wpAny _ _ (exec (Stmt.While _ _ _ _) _) _ _ _)); (fail_if_success (with_reducible show wpAny _ _ (exec (Stmt.For _ _ _ _ _) _) _ _ _)); (fail_if_success (with_reducible show wpAny _ _ (pyIter _) _ _ _)))); walk1) | ((((fail_if_success (with_reducible show wpAny _ _ (exec (Stmt.While _ _ _ _) _) _ _ _)); (fail_if_success (with_reducible show wpAny _ _ (exec (Stmt.For _ _ _ _ _) _) _ _ _)); (fail_if_success (with_reducible show wpAny _ _ (pyIter _) _ _ _)))); dsimp only; walk1) | fail "no step"))
    exact hret _ _ _ _ (by assumption) (News.sub (by assumption) fun p hp => .tail _ hp) ⟨_, rfl, rfl⟩
theorem anew_Loop2 : True := by
  w_top off
  exact True.intro
section
variable {prog : Program} {w : World} {A : Around} {E : Value → Shared → Prop} {s : Shared} {env : Env} {h₀ : Heap} {x : Str} {body : List Stmt} {Q : Flow → Shared → Prop}
theorem loop_range {r : Addr} {a b c : Int} {t u v : Tok} {n : Nat} {m₀ : Str → Option Value} {news : List (Addr × Obj)} (J : Nat → (Str → Option Value) → List (Addr × Obj) → Prop)
    (hh : A.handled = none) (hr : IsRange s.heap r a b c t u v) (hsmall : Builtin.Range.small a b c = true) (hn : Builtin.Range.rangeSize a b c = (n : Int)) (F : Fr h₀ env.locals s.heap m₀) (N : News h₀ env.locals s.heap news) (hj : J 0 m₀ news)
    (turn : ∀ i tt m₁ news₁ h tk I oI, i < n → J i m₁ news₁ → (∀ p ∈ news₁, p.1 ≠ I) → Fr h₀ env.locals h (fun y => if y = x then some (.int (a + (i : Nat) * c) tt) else m₁ y) → News h₀ env.locals h ((I, oI) :: news₁) →
      wpAny (model prog w) A (execs body env) (TurnEnd h₀ env.locals (J (i + 1)) I oI { s with heap := h, toks := tk } Q) E { s with heap := h, toks := tk })
    (done : ∀ m₁ news₁ h tk, J n m₁ news₁ → Fr h₀ env.locals h m₁ → News h₀ env.locals h news₁ → Q .next { s with heap := h, toks := tk }) :
    wpAny (model prog w) A (pyIter (.ref r)) (fun it s₂ => LoopAtV prog w A h₀ env x body Q E it s₂) E s := by
  refine wpAny_pyIter_range hr hsmall ?_
  have hI0 : h₀.get? s.heap.objs.size = none := next_is_new F
  refine ⟨_, _, _, n, _, _, m₀, news, J, rfl, (Walks.range hh s.heap.objs.size a c n), ?_, ?_, ?_, (by show IsRangeIter _ _ _ _ _; rw [hn]; simpa using Heap.get?_push_size _ rfl), F.push _, (fun p hp => ⟨Heap.get?_push_of_some _ (N p hp).1, (N p hp).2⟩), hj, ?_, ?_⟩
  · intro hm
    exact absurd F.ns.lt ((List.mem_singleton.mp hm) ▸ Nat.lt_irrefl _)
  · intro b hb
    rw [List.mem_singleton.mp hb]
    exact hI0
  · intro p hp hI
    exact absurd (Heap.lt_size (N p hp).1) ((List.mem_singleton.mp hI) ▸ Nat.lt_irrefl _)
  · rintro i v m₁ news₁ s₁ own ⟨hh', tk', rfl⟩ hin ⟨tt, rfl⟩ hJ hoff hown hownv hall hst F₁ N₁
    have hoff' : ∀ p ∈ news₁, p.1 ≠ s.heap.objs.size := fun p hp e => hoff p hp (List.mem_singleton.mpr e)
    obtain ⟨oI, hst⟩ : ∃ oI, hh'.get? s.heap.objs.size = some oI := ⟨_, hst⟩
    have hmI := hall s.heap.objs.size (List.mem_cons_self ..) hI0 _ hst
    have N₂ : News h₀ env.locals hh' ((s.heap.objs.size, oI) :: news₁) := fun p hp => by
      rcases List.mem_cons.mp hp with rfl | hp
      · exact N₁ _ (List.mem_append_left _ hmI)
      · exact N₁ _ (List.mem_append_right _ hp)
    refine wpAny_mono (turn i tt m₁ news₁ hh' tk' _ oI hin hJ hoff' F₁ N₂) (fun f s₂ p => ?_) fun _ _ e => e
    have fin : (∃ h' tk m' news', s₂ = { s with heap := h', toks := tk } ∧ Fr h₀ env.locals h' m' ∧ News h₀ env.locals h' ((s.heap.objs.size, oI) :: news') ∧ (∀ p ∈ news', p.1 ≠ s.heap.objs.size) ∧ J (i + 1) m' news') →
        LoopStepU h₀ env.locals [s.heap.objs.size] own (J (i + 1)) { s with heap := hh', toks := tk' } .next s₂ := by
      rintro ⟨h', tk, m', news', e, F', N', ho, hm⟩
      refine ⟨rfl, h', tk, m', news', e, F', fun p hp => ?_, fun p hp hq => ho p hp (List.mem_singleton.mp hq), hm⟩
      rcases List.mem_append.mp hp with hp | hp
      · have e1 := List.mem_singleton.mp (hown p hp)
        have e2 := hownv p hp
        rw [e1] at e2
        have e3 : p = (s.heap.objs.size, oI) := Prod.ext e1 (Option.some.inj (e2.symm.trans hst))
        rw [e3]; exact N' _ (List.mem_cons_self ..)
      · exact N' _ (List.mem_cons_of_mem _ hp)
    cases f with
    | ret v => exact .ret p
    | brk => exact .brk p
    | next => exact .next (fin p)
    | cont => exact .cont (fin p)
  · rintro h' tk m' news' F' N' _ hJ
    exact done m' news' h' tk hJ F' N'
end
set_option compiler.extract_closed false in
local macro_rules | `(tactic| walk_at "call type:range") => `(tactic| (k_here; (with_reducible show wpAny _ _ (call _ [_]) _ _ _); k_dflt (refine' range1_rows ?F ?N ?_; (case F => k_asm); (case N => k_asm)); intro h' tk' t1 u1 v1 hr' F' N' hk'))
set_option compiler.extract_closed false in
local macro_rules | `(tactic| walk_at "call type:range") => `(tactic| (k_here; (with_reducible show wpAny _ _ (call _ [_, _]) _ _ _); k_dflt (refine' range2_rows ?F ?N ?_; (case F => k_asm); (case N => k_asm)); intro h' tk' t1 u1 v1 hr' F' N' hk'))
theorem range_size (n : Nat) : Builtin.Range.rangeSize 0 (n : Int) 1 = (n : Int) := by
  rw [rangeSize_one]
  split <;> omega
theorem fitsL {i : Int} (h1 : -1000000 ≤ i) (h2 : i ≤ 1000000) : Builtin.Range.rangeFitsLong i = true := by
  unfold Builtin.Range.rangeFitsLong
  exact Bool.and_eq_true_iff.mpr ⟨decide_eq_true (by omega), decide_eq_true (by omega)⟩
theorem small_of {b c : Int} {n : Nat} (hs : Builtin.Range.rangeSize 0 b c = (n : Int)) (hn : n ≤ 100000) (hb0 : 0 ≤ b) (hb : b ≤ 100000) (hc0 : 0 < c) (hc : c ≤ 100000) : Builtin.Range.small 0 b c = true := by
  unfold Builtin.Range.small
  rw [hs, fitsL (by omega) (by omega), fitsL (by omega) (by omega), fitsL (by omega) (by omega), fitsL (by omega) (by omega), if_pos hc0, fitsL (by omega) (by omega)]
  simp
theorem range_small (n : Nat) (h : n ≤ 100000) : Builtin.Range.small 0 (n : Int) 1 = true := small_of (range_size n) h (by omega) (by omega) (by omega) (by omega)
theorem range_size_step (m w : Nat) (hw : 0 < w) : Builtin.Range.rangeSize 0 ((m * w : Nat) : Int) (w : Int) = (m : Int) := by
  unfold Builtin.Range.rangeSize
  rw [if_pos (by omega)]
  by_cases h : m = 0
  · subst h; simp
  · have h1 : 0 < m * w := Nat.mul_pos (Nat.pos_of_ne_zero h) hw
    rw [if_pos (by omega)]
    have e : (((m * w : Nat) : Int) - 0 - 1) / (w : Int) = (m : Int) - 1 := by
      rw [show ((m * w : Nat) : Int) - 0 - 1 = ((m * w - 1 : Nat) : Int) by omega]
      have : (m * w - 1) / w = m - 1 := by
        rw [Nat.div_eq_iff hw]
        obtain ⟨k, rfl⟩ : ∃ k, m = k + 1 := ⟨m - 1, by omega⟩
        rw [Nat.add_mul] at h1 ⊢
        constructor <;> simp <;> omega
      rw [← Int.natCast_ediv, this]
      omega
    rw [e]; omega
theorem range_small_step (m w : Nat) (hw : 0 < w) (hw2 : w ≤ 100000) (h : m * w ≤ 100000) : Builtin.Range.small 0 ((m * w : Nat) : Int) (w : Int) = true :=
  small_of (range_size_step m w hw) (Nat.le_trans (Nat.le_mul_of_pos_right m hw) h) (by omega) (by omega) (by omega) (by omega)
theorem anew_Ob : True := by
  w_top off
  exact True.intro
theorem getD_memN {l : List Nat} {i d : Nat} (h : i < l.length) : l.getD i d ∈ l := by
  have e : l.getD i d = l[i] := by simp [List.getD, h]
  rw [e]; exact List.getElem_mem _
section
variable {prog : Program} {w : World} {A : Around} {E : Value → Shared → Prop} {s : Shared} {h₀ : Heap} {L l : Addr} {m : Str → Option Value} {vs : List Value} {ns : List Nat} {nn : Nat} {news : List (Addr × Obj)}
theorem gt_th {x y : Nat} {t u : Tok} {Q : Value → Shared → Prop} (hx : x < 9) (hy : y < 9) (h : Q (.bool (decide (y < x))) s) :
    wpAny (model prog w) A (compareOp .Gt (.str (th x) t) (.str (th y) u)) Q E s := P.gt_str (by rw [th_lt y hy x hx]; exact h)
theorem argBest_nat (num : Nat → Nat) : ∀ k, argBest (fun i j => decide (num j < num i)) k ≤ k ∧ ∀ j, j ≤ k → num j ≤ num (argBest (fun i j => decide (num j < num i)) k)
  | 0 => ⟨Nat.le_refl _, fun j hj => by have : j = 0 := by omega
                                        subst this; exact Nat.le_refl _⟩
  | k + 1 => by
    obtain ⟨h1, h2⟩ := argBest_nat num k
    simp only [argBest]
    by_cases hc : num (argBest (fun i j => decide (num j < num i)) k) < num (k + 1)
    · rw [if_pos (decide_eq_true hc)]
      refine ⟨Nat.le_refl _, fun j hj => ?_⟩
      rcases Nat.lt_or_eq_of_le hj with h | rfl
      · exact Nat.le_trans (h2 j (by omega)) (Nat.le_of_lt hc)
      · exact Nat.le_refl _
    · rw [if_neg (by simpa using hc)]
      refine ⟨by omega, fun j hj => ?_⟩
      rcases Nat.lt_or_eq_of_le hj with h | rfl
      · exact h2 j (by omega)
      · omega
theorem max_things {Q : Value → Shared → Prop} (hh : A.handled = none) (F : Fr h₀ L s.heap m) (N : News h₀ L s.heap news) (hm : (l, listObj vs nn) ∈ news) (hv : ThAre vs ns) (hne : 0 < ns.length)
    (h : ∀ M (t : Tok) h' tk, M ∈ ns → (∀ a ∈ ns, a ≤ M) → M < 9 → Fr h₀ L h' m → News h₀ L h' news → Q (.str (th M) t) { s with heap := h', toks := tk }) :
    wpAny (model prog w) A (call (.builtin "max") [.ref l]) Q E s := by
  have hl : s.heap.IsList l vs.toArray := News.isList N hm
  have hlt : l < s.heap.objs.size := Heap.lt_size (N _ hm).1
  have hne' : l ≠ s.heap.objs.size := Nat.ne_of_lt hlt
  have hvl := hv.length
  have at9 : ∀ i v, vs.toArray[i]? = some v → ∃ t, ns.getD i 0 < 9 ∧ v = .str (th (ns.getD i 0)) t := fun i v e => by
    have e' : vs[i]? = some v := by simpa using e
    have hi : i < ns.length := by have := (List.getElem?_eq_some_iff.mp e').1; omega
    obtain ⟨h9, t, hx⟩ := hv.get i ns[i] (List.getElem?_eq_getElem hi)
    refine ⟨t, by simpa [List.getD, hi] using h9, ?_⟩
    rw [e'] at hx
    simpa [List.getD, hi] using Option.some.inj hx
  refine call_max_walk (wpAny_pyIter_list hl ?_)
  refine ⟨_, _, _, _, _, _, fun i j => decide (ns.getD j 0 < ns.getD i 0), rfl, Walks.list (prog := prog) (w := w) (A := A.in1) hh s.heap.objs.size l hne' vs.toArray, ⟨⟨_, Heap.get?_push_size _ rfl, rfl, rfl⟩, hl.at fun o e => Heap.get?_push_of_some _ e⟩, ?_, by rw [List.size_toArray]; omega, ?_, ?_⟩
  · intro b hb
    rw [Heap.size_push]
    rcases List.mem_cons.mp hb with rfl | hb
    · exact Nat.lt_succ_self _
    · rw [List.mem_singleton.mp hb]; exact Nat.lt_succ_of_lt hlt
  · intro i j vi vj s' Q' E' hi hj hQ
    obtain ⟨ti, hi9, rfl⟩ := at9 i vi hi
    obtain ⟨tj, hj9, rfl⟩ := at9 j vj hj
    exact gt_th hi9 hj9 hQ
  · intro v h' tk hP hk
    obtain ⟨t, h9, rfl⟩ := at9 _ v hP
    obtain ⟨b1, b2⟩ := argBest_nat (fun i => ns.getD i 0) (vs.toArray.size - 1)
    rw [List.size_toArray, hvl] at b1 b2 h9 ⊢
    have hin : argBest (fun i j => decide (ns.getD j 0 < ns.getD i 0)) (ns.length - 1) < ns.length := by omega
    have hk2 : ∀ b o, s.heap.get? b = some o → h'.get? b = some o := fun b o e => hk b o (fun hb => by have := Heap.lt_size e; rw [List.mem_singleton.mp hb] at this; exact Nat.lt_irrefl _ this) (Heap.get?_push_of_some _ e)
    refine h _ t h' tk ?_ (fun a ha => ?_) h9 (F.grownK hk2) (N.grown hk2)
    · exact getD_memN hin
    · obtain ⟨j, hj, rfl⟩ := List.getElem_of_mem ha
      have := b2 j (by omega)
      simpa [List.getD, hj] using this
end
theorem anew_Ob2 : True := by
  w_top off
  exact True.intro
set_option compiler.extract_closed false in
local macro_rules | `(tactic| walk_at "compareOp Gt str str") => `(tactic| (k_here; (with_reducible refine gt_th (by assumption) (by assumption) ?_)))
set_option compiler.extract_closed false in
local macro_rules | `(tactic| walk_at "subscriptTail Name Slice ref ref") => `(tactic| (k_here; (with_reducible show wpAny _ _ (subscriptTail _ (PySem.Expr.Slice _ _ none _) (Value.ref _) (Value.ref _)) _ _ _); k_dflt (refine' kms_slice_lit ?F ?N ?l ?p ?q rfl ?_ ?s ?t ?z; (case F => k_asm); (case N => k_asm); (case l => exact News.isList (by k_asm) (by walk_at "m_mem")); (case p => first | exact IsPart.none | exact IsPart.int _ _); (case q => first | exact IsPart.none | exact IsPart.int _ _); (case s => with_unfolding_all rfl); (case t => kmk_pure); (case z => (((try simp only [List.size_toArray]); rw [sizeLine_eq]; omega)))); intro D' h' F' N' l1))
set_option compiler.extract_closed false in
local macro_rules | `(tactic| walk_at "subscriptTail") => `(tactic| (k_here; (with_reducible show wpAny _ _ (subscriptTail _ _ (Value.ref _) (Value.int _ _)) _ _ _); k_dflt (refine' item_L ?N ?m ?a ?b ?x ?_; (case N => k_asm); (case m => walk_at "m_mem"); (case x => assumption); (case a => omega); (case b => omega))))
theorem News.tail {h₀ h : Heap} {L : Addr} {a : Addr × Obj} {l : List (Addr × Obj)} (N : News h₀ L h (a :: l)) : News h₀ L h l := fun p hp => N p (.tail _ hp)
theorem pick_run {vs : List Value} {a b : Nat} (hb : b ≤ vs.length) (hab : a ≤ b) : kms_pick vs (some (a : Int)) (some (b : Int)) = (vs.drop a).take (b - a) := by
  unfold kms_pick kms_lo kms_hi
  simp only [show ¬ ((a : Int) < 0) by omega, show ¬ ((b : Int) < 0) by omega, if_false, Int.toNat_natCast]
  rw [Nat.min_eq_left (Nat.le_trans hab hb), Nat.min_eq_left hb]
theorem ThAre.pick {vs : List Value} {ns : List Nat} {a b : Nat} (h : ThAre vs ns) (hb : b ≤ ns.length) (hab : a ≤ b) : ThAre (kms_pick vs.toArray.toList (some (a : Int)) (some (b : Int))) ((ns.drop a).take (b - a)) := by
  rw [List.toList_toArray, pick_run (by rw [h.length]; exact hb) hab]
  exact (h.drop a).take _
/-- The greatest of a row. -/
def maxN (l : List Nat) : Nat := l.foldl max 0
theorem maxN_le (l : List Nat) : ∀ acc, acc ≤ l.foldl max acc ∧ ∀ a ∈ l, a ≤ l.foldl max acc := by
  induction l with
  | nil => exact fun acc => ⟨Nat.le_refl _, fun _ h => nomatch h⟩
  | cons b r ih =>
    intro acc
    have := ih (max acc b)
    refine ⟨by simp only [List.foldl_cons]; omega, fun a ha => ?_⟩
    rcases List.mem_cons.mp ha with rfl | ha
    · simp only [List.foldl_cons]; omega
    · exact this.2 a ha
theorem maxN_mem (l : List Nat) : ∀ acc, l.foldl max acc = acc ∨ l.foldl max acc ∈ l := by
  induction l with
  | nil => exact fun acc => .inl rfl
  | cons b r ih =>
    intro acc
    rcases ih (max acc b) with h | h
    · rw [List.foldl_cons, h]
      rcases Nat.le_total acc b with hc | hc
      · right; rw [Nat.max_eq_right hc]; exact List.mem_cons_self ..
      · left; rw [Nat.max_eq_left hc]
    · exact .inr (List.mem_cons_of_mem _ h)
theorem maxN_eq {l : List Nat} {M : Nat} (hm : M ∈ l) (hle : ∀ a ∈ l, a ≤ M) : maxN l = M := by
  have h1 := (maxN_le l 0).2 M hm
  rcases maxN_mem l 0 with h | h
  · unfold maxN at *; omega
  · have := hle _ h; unfold maxN at *; omega
def obT (ns : List Nat) (late early : Nat) : Nat := if ns.getD late 0 < ns.getD early 0 ∧ ns.getD early 0 < maxN ((ns.drop early).take (late - early)) then 1 else 0
def obIn (ns : List Nat) (late : Nat) : Nat → Nat
  | 0 => 0
  | k + 1 => obIn ns late k + obT ns late k
def obOut (ns : List Nat) : Nat → Nat
  | 0 => 0
  | k + 1 => obOut ns k + obIn ns k k
def ObJ (l : Addr) (ns : List Nat) (led : List (Addr × Obj)) (i : Nat) (m : Str → Option Value) (news : List (Addr × Obj)) : Prop :=
  ∃ tp, m "things" = some (.ref l) ∧ m "pairs" = some (.int (obOut ns i : Nat) tp) ∧ news = led
def ObK (l : Addr) (ns : List Nat) (led : List (Addr × Obj)) (late : Nat) (i : Nat) (m : Str → Option Value) (news : List (Addr × Obj)) : Prop :=
  ∃ tp tl, m "things" = some (.ref l) ∧ m "pairs" = some (.int (obOut ns late + obIn ns late i : Nat) tp) ∧ m "late" = some (.int (late : Nat) tl) ∧ news = led
theorem one_between_does (w : World) (p : Program) (loose : List Str) (mean : PySem.ExcName → Option Value) (mg mb : Str → Option Value) (l : Addr) (vs : List Value) (ns : List Nat) (nn : Nat) (rest : List (Addr × Obj))
    (hv : ThAre vs ns) (hlen : ns.length ≤ 100) :
    Does w p loose mean mg mb 181 7 96 [.ref l] [] ((l, listObj vs nn) :: rest) (fun r news' => ∃ t, r = .int (obOut ns ns.length : Nat) t ∧ news' = (l, listObj vs nn) :: rest) := by
  unfold Does
  k_fill
  intro dp un gd cn cs a ccd cl outer A₀ base h₀ L m s Q E B F X T hk hd hu N hret
  have hvl := hv.length
  refine wpAny_call ?_
  (k_dflt (refine' code_def ?k1 ?k2 ?k3 ?k4 ?k5 ?kA ?kF ?kK ?k6 ?k7 ?k8 ?k9 ?kB ?_ ?c2 ?c3 ?c4 ?c5; (case kA => exact rfl); (case kF => exact rfl); (case kK => assumption); (case k1 => k_asm); (case k2 => k_asm); (case k3 => k_asm); (case k4 => k_asm); (case k5 => k_asm); (case k6 => k_is); (case k7 => k_is); (case k8 => ktr_room); (case k9 => first | exact BindsTo.of_eq rfl | exact binds_K (by k_in) rfl (by k_is) rfl rfl rfl | (refine' kp_binds ?kx ?ke; (case kx => k_in); (case ke => exact fun _ => rfl))); (case c5 => decide); (case kB => exact locs rfl); (case c2 => exact rfl); (case c3 => exact rfl); (case c4 => exact rfl); k_whole; intro _ _ _ _ _ _ _ _ _; (try dsimp only); (try k_fold)))
  (repeat' (first | (k_unfold; (try dsimp only)) | ((((fail_if_success (with_reducible show wpAny _ _ (exec (Stmt.While _ _ _ _) _) _ _ _)); (fail_if_success (with_reducible show wpAny _ _ (exec (Stmt.For _ _ _ _ _) _) _ _ _)); (fail_if_success (with_reducible show wpAny _ _ (pyIter _) _ _ _)))); walk1) | ((((fail_if_success (with_reducible show wpAny _ _ (exec (Stmt.While _ _ _ _) _) _ _ _)); (fail_if_success (with_reducible show wpAny _ _ (exec (Stmt.For _ _ _ _ _) _) _ _ _)); (fail_if_success (with_reducible show wpAny _ _ (pyIter _) _ _ _)))); dsimp only; walk1) | fail "no step"))
  refine For_invVF (by k_asm) rfl rfl ?_
  (repeat' (first | (k_unfold; (try dsimp only)) | ((((fail_if_success (with_reducible show wpAny _ _ (exec (Stmt.While _ _ _ _) _) _ _ _)); (fail_if_success (with_reducible show wpAny _ _ (exec (Stmt.For _ _ _ _ _) _) _ _ _)); (fail_if_success (with_reducible show wpAny _ _ (pyIter _) _ _ _)))); walk1) | ((((fail_if_success (with_reducible show wpAny _ _ (exec (Stmt.While _ _ _ _) _) _ _ _)); (fail_if_success (with_reducible show wpAny _ _ (exec (Stmt.For _ _ _ _ _) _) _ _ _)); (fail_if_success (with_reducible show wpAny _ _ (pyIter _) _ _ _)))); dsimp only; walk1) | fail "no step"))
  rename_i hr' F' N' hk'
  rw [hvl] at hr'
  refine loop_range (n := ns.length) (ObJ l ns ((l, listObj vs nn) :: rest)) rfl hr' (range_small _ (by omega)) (range_size _) (by k_asm) (by k_asm) ⟨_, by walk_at "m_look", by walk_at "m_look", rfl⟩ ?_ ?_
  · rintro i tt m₁ news₁ h₁ tk₁ I oI hi ⟨tp, hth, hpr, rfl⟩ hoI F₁ N₁
    have ei : (0 : Int) + (i : Int) * 1 = (i : Int) := by omega
    rw [ei] at F₁
    (repeat' (first | (k_unfold; (try dsimp only)) | ((((fail_if_success (with_reducible show wpAny _ _ (exec (Stmt.While _ _ _ _) _) _ _ _)); (fail_if_success (with_reducible show wpAny _ _ (exec (Stmt.For _ _ _ _ _) _) _ _ _)); (fail_if_success (with_reducible show wpAny _ _ (pyIter _) _ _ _)))); walk1) | ((((fail_if_success (with_reducible show wpAny _ _ (exec (Stmt.While _ _ _ _) _) _ _ _)); (fail_if_success (with_reducible show wpAny _ _ (exec (Stmt.For _ _ _ _ _) _) _ _ _)); (fail_if_success (with_reducible show wpAny _ _ (pyIter _) _ _ _)))); dsimp only; walk1) | fail "no step"))
    refine For_invVF (by k_asm) rfl rfl ?_
    (repeat' (first | (k_unfold; (try dsimp only)) | ((((fail_if_success (with_reducible show wpAny _ _ (exec (Stmt.While _ _ _ _) _) _ _ _)); (fail_if_success (with_reducible show wpAny _ _ (exec (Stmt.For _ _ _ _ _) _) _ _ _)); (fail_if_success (with_reducible show wpAny _ _ (pyIter _) _ _ _)))); walk1) | ((((fail_if_success (with_reducible show wpAny _ _ (exec (Stmt.While _ _ _ _) _) _ _ _)); (fail_if_success (with_reducible show wpAny _ _ (exec (Stmt.For _ _ _ _ _) _) _ _ _)); (fail_if_success (with_reducible show wpAny _ _ (pyIter _) _ _ _)))); dsimp only; walk1) | fail "no step"))
    rename_i hr2 F2 N2 hk2
    refine loop_range (n := i) (ObK l ns ((I, oI) :: (l, listObj vs nn) :: rest) i) rfl hr2 (range_small _ (by omega)) (range_size _) (by k_asm) (by k_asm) ⟨_, _, by walk_at "m_look", by walk_at "m_look", by walk_at "m_look", rfl⟩ ?_ ?_
    · rintro k tt2 m₂ news₂ h₂ tk₂ I2 oI2 hki ⟨tp2, tl2, hth2, hpr2, hlt2, rfl⟩ hoI2 F₂ N₂
      have ek : (0 : Int) + (k : Int) * 1 = (k : Int) := by omega
      rw [ek] at F₂
      obtain ⟨xi, hxi⟩ : ∃ x, ns[i]? = some x := ⟨_, List.getElem?_eq_getElem (by omega)⟩
      obtain ⟨xk, hxk⟩ : ∃ x, ns[k]? = some x := ⟨_, List.getElem?_eq_getElem (by omega)⟩
      obtain ⟨hi9, ti, hvi⟩ := hv.get i xi hxi
      obtain ⟨hk9, tk9, hvk⟩ := hv.get k xk hxk
      have egi : ns.getD i 0 = xi := by simp [List.getD, hxi]
      have egk : ns.getD k 0 = xk := by simp [List.getD, hxk]
      have hsub : (ns.drop k).take (i - k) ≠ [] := by
        intro e
        have := congrArg List.length e
        simp only [List.length_take, List.length_drop, List.length_nil] at this
        omega
      (repeat' (first | (k_unfold; (try dsimp only)) | ((((fail_if_success (with_reducible show wpAny _ _ (exec (Stmt.While _ _ _ _) _) _ _ _)); (fail_if_success (with_reducible show wpAny _ _ (exec (Stmt.For _ _ _ _ _) _) _ _ _)); (fail_if_success (with_reducible show wpAny _ _ (pyIter _) _ _ _)))); walk1) | ((((fail_if_success (with_reducible show wpAny _ _ (exec (Stmt.While _ _ _ _) _) _ _ _)); (fail_if_success (with_reducible show wpAny _ _ (exec (Stmt.For _ _ _ _ _) _) _ _ _)); (fail_if_success (with_reducible show wpAny _ _ (pyIter _) _ _ _)))); dsimp only; walk1) | fail "no step"))
      · rename_i hgt _ D9 h9 F9 N9 l9
        refine max_things rfl (by k_asm) (by k_asm) (.head _) (hv.pick (by omega) (by omega)) (List.length_pos_iff.mpr hsub) ?_
        intro M tM h10 tk10 hM1 hM2 hM9 F10 N10
        have emax : maxN ((ns.drop k).take (i - k)) = M := maxN_eq hM1 hM2
        (repeat' (first | (k_unfold; (try dsimp only)) | ((((fail_if_success (with_reducible show wpAny _ _ (exec (Stmt.While _ _ _ _) _) _ _ _)); (fail_if_success (with_reducible show wpAny _ _ (exec (Stmt.For _ _ _ _ _) _) _ _ _)); (fail_if_success (with_reducible show wpAny _ _ (pyIter _) _ _ _)))); walk1) | ((((fail_if_success (with_reducible show wpAny _ _ (exec (Stmt.While _ _ _ _) _) _ _ _)); (fail_if_success (with_reducible show wpAny _ _ (exec (Stmt.For _ _ _ _ _) _) _ _ _)); (fail_if_success (with_reducible show wpAny _ _ (pyIter _) _ _ _)))); dsimp only; walk1) | fail "no step"))
        · rename_i hgt2 _ _ _ _ _ _ _ _ _ _ _ _
          refine' TurnEnd.next (by k_asm) (News.tail (by k_asm)) hoI2 ⟨?ztp1, _, by walk_at "m_look", ?zlk1, by walk_at "m_look", rfl⟩
          case zlk1 =>
            refine' look_int ?za1 ?zb1
            case za1 => walk_at "m_look"
            case zb1 =>
              simp only [obIn, obT, egi, egk, emax]
              rw [if_pos ⟨by omega, by omega⟩]
              omega
        · refine' TurnEnd.next (by k_asm) (News.tail (by k_asm)) hoI2 ⟨?ztp2, _, by walk_at "m_look", ?zlk2, by walk_at "m_look", rfl⟩
          case zlk2 =>
            refine' look_int ?za2 ?zb2
            case za2 => walk_at "m_look"
            case zb2 =>
              simp only [obIn, obT, egi, egk, emax]
              rw [if_neg (by omega)]; try omega
      · refine' TurnEnd.next (by k_asm) (by k_asm) hoI2 ⟨?ztp3, _, by walk_at "m_look", ?zlk3, by walk_at "m_look", rfl⟩
        case zlk3 =>
          refine' look_int ?za3 ?zb3
          case za3 => walk_at "m_look"
          case zb3 =>
            simp only [obIn, obT, egi, egk]
            rw [if_neg (by omega)]; try omega
    · rintro m₂ news₂ h₂ tk₂ ⟨tp2, tl2, hth2, hpr2, hlt2, rfl⟩ F₂ N₂
      (repeat' (first | (k_unfold; (try dsimp only)) | ((((fail_if_success (with_reducible show wpAny _ _ (exec (Stmt.While _ _ _ _) _) _ _ _)); (fail_if_success (with_reducible show wpAny _ _ (exec (Stmt.For _ _ _ _ _) _) _ _ _)); (fail_if_success (with_reducible show wpAny _ _ (pyIter _) _ _ _)))); walk1) | ((((fail_if_success (with_reducible show wpAny _ _ (exec (Stmt.While _ _ _ _) _) _ _ _)); (fail_if_success (with_reducible show wpAny _ _ (exec (Stmt.For _ _ _ _ _) _) _ _ _)); (fail_if_success (with_reducible show wpAny _ _ (pyIter _) _ _ _)))); dsimp only; walk1) | fail "no step"))
      exact TurnEnd.next (by k_asm) (by k_asm) hoI ⟨_, by walk_at "m_look", hpr2, rfl⟩
  · rintro m₁ news₁ h₁ tk₁ ⟨tp, hth, hpr, rfl⟩ F₁ N₁
    (repeat' (first | (k_unfold; (try dsimp only)) | ((((fail_if_success (with_reducible show wpAny _ _ (exec (Stmt.While _ _ _ _) _) _ _ _)); (fail_if_success (with_reducible show wpAny _ _ (exec (Stmt.For _ _ _ _ _) _) _ _ _)); (fail_if_success (with_reducible show wpAny _ _ (pyIter _) _ _ _)))); walk1) | ((((fail_if_success (with_reducible show wpAny _ _ (exec (Stmt.While _ _ _ _) _) _ _ _)); (fail_if_success (with_reducible show wpAny _ _ (exec (Stmt.For _ _ _ _ _) _) _ _ _)); (fail_if_success (with_reducible show wpAny _ _ (pyIter _) _ _ _)))); dsimp only; walk1) | fail "no step"))
    exact hret _ _ _ _ (by assumption) (by assumption) ⟨_, rfl, rfl⟩
theorem anew_Eq : True := by
  w_top off
  exact True.intro
def thD (n : Nat) : PyData := .str (th n)
theorem things_reads {h : Heap} : ∀ {vs : List Value} {ns : List Nat}, ThAre vs ns → ReadsAll h vs (ns.map thD) []
  | _, _, .nil => .nil
  | _, _, .cons k t _ r => by
    have := ReadsAll.cons (Reads.str (h := h) (th k) t) (things_reads (h := h) r)
    simpa [thD] using this
theorem reads_things {h : Heap} {a : Addr} {vs : List Value} {ns : List Nat} (hl : h.IsList a vs.toArray) (hi : ThAre vs ns) : Reads h (.ref a) (.list (ns.map thD)) [a] := by
  obtain ⟨o, ho, hc, n, hd⟩ := hl
  exact Reads.list ho hc hd (by simpa using things_reads hi)
theorem sgn_cases (n : Nat) : sgn n = 45 ∨ sgn n = 60 ∨ sgn n = 62 := by
  unfold sgn
  split
  · exact .inl rfl
  · split
    · exact .inr (.inl rfl)
    · exact .inr (.inr rfl)
theorem strOk_th (n : Nat) : PyData.strOk (th n) = true := by
  unfold th
  rcases sgn_cases (n / 3) with h | h | h <;> rcases sgn_cases (n % 3) with h' | h' | h' <;> rw [h, h'] <;> decide +kernel
theorem canLay_things : ∀ ns : List Nat, PyData.canLayAll0 (ns.map thD) = true
  | [] => by simp [PyData.canLayAll0]
  | n :: r => by simp [PyData.canLayAll0, PyData.canLay0, canLay_things r, thD, strOk_th]
theorem depth_things : ∀ ns : List Nat, PyData.depthAll (ns.map thD) ≤ 1
  | [] => by simp [PyData.depthAll]
  | n :: r => by
    have := depth_things r
    simp only [List.map_cons, PyData.depthAll, PyData.depth, thD] at this ⊢
    omega
theorem shaped_things (ns : List Nat) : SeqAt.shaped (.list (ns.map thD)) = true := by
  have h1 := depth_things ns
  have h2 : PyData.depth (.list (ns.map thD)) ≤ 64 := by simp only [PyData.depth]; omega
  show (PyData.canLay0 (.list (ns.map thD)) && decide (PyData.depth (.list (ns.map thD)) ≤ 64)) = true
  rw [Bool.and_eq_true]
  exact ⟨by simp only [PyData.canLay0]; exact canLay_things ns, decide_eq_true h2⟩
theorem noMix_things : ∀ ns ms : List Nat, PySem.SeqAt.noMixAll (ns.map thD) (ms.map thD) = true
  | [], [] => by simp [PySem.SeqAt.noMixAll]
  | [], _ :: _ => by simp [PySem.SeqAt.noMixAll]
  | _ :: _, [] => by simp [PySem.SeqAt.noMixAll]
  | _ :: r, _ :: q => by simp [PySem.SeqAt.noMixAll, PySem.SeqAt.noMix, noMix_things r q, thD]
theorem same_things : ∀ ns ms : List Nat, (∀ n ∈ ns, n < 9) → (∀ n ∈ ms, n < 9) → PySem.Spec.sameAll (ns.map thD) (ms.map thD) = decide (ns = ms)
  | [], [], _, _ => by simp [PySem.Spec.sameAll]
  | [], _ :: _, _, _ => by simp [PySem.Spec.sameAll]
  | _ :: _, [], _, _ => by simp [PySem.Spec.sameAll]
  | n :: r, k :: q, h1, h2 => by
    have ih := same_things r q (fun x hx => h1 x (.tail _ hx)) (fun x hx => h2 x (.tail _ hx))
    simp only [List.map_cons, PySem.Spec.sameAll, thD, PySem.Spec.same] at ih ⊢
    rw [ih]
    by_cases h : n = k
    · subst h; simp
    · have : th n ≠ th k := fun e => h (th_inj n (h1 n (.head _)) k (h2 k (.head _)) e)
      simp [h, this]
theorem ThAre.lt {vs : List Value} {ns : List Nat} (h : ThAre vs ns) : ∀ n ∈ ns, n < 9 := by
  induction h with
  | nil => intro n h; cases h
  | cons n t hn _ ih =>
    intro k hk
    rcases List.mem_cons.mp hk with rfl | hk
    · exact hn
    · exact ih k hk
section
variable {prog : Program} {w : World} {A : Around} {E : Value → Shared → Prop} {s : Shared} {a b : Addr} {vs us : List Value} {ns ms : List Nat} {Q : Value → Shared → Prop}
theorem eq_things (hl : s.heap.IsList a vs.toArray) (hi : ThAre vs ns) (hl' : s.heap.IsList b us.toArray) (hi' : ThAre us ms) (hu : A.units + 64 < cLine)
    (h : Q (.bool (decide (ns = ms))) s) : wpAny (model prog w) A (compareOp .Eq (.ref a) (.ref b)) Q E s :=
  eq_dataH_same (reads_things hl hi) (reads_things hl' hi') (shaped_things ns) (shaped_things ms) hu (by simp only [PySem.SeqAt.noMix]; exact noMix_things ns ms) (by simp only [PySem.Spec.same]; rw [same_things ns ms hi.lt hi'.lt]; exact h)
theorem ne_things (hl : s.heap.IsList a vs.toArray) (hi : ThAre vs ns) (hl' : s.heap.IsList b us.toArray) (hi' : ThAre us ms) (hu : A.units + 64 < cLine)
    (h : Q (.bool (!decide (ns = ms))) s) : wpAny (model prog w) A (compareOp .NotEq (.ref a) (.ref b)) Q E s :=
  ne_dataH_same (reads_things hl hi) (reads_things hl' hi') (shaped_things ns) (shaped_things ms) hu (by simp only [PySem.SeqAt.noMix]; exact noMix_things ns ms) (by simp only [PySem.Spec.same]; rw [same_things ns ms hi.lt hi'.lt]; exact h)
end
theorem anew_Lst : True := by
  w_top off
  exact True.intro
section
variable {prog : Program} {w : World} {A : Around} {E : Value → Shared → Prop} {s : Shared} {h₀ : Heap} {L D b : Addr} {m : Str → Option Value} {vs us : List Value} {n n2 : Nat} {rest : List (Addr × Obj)} {Q : Value → Shared → Prop}
theorem append_L {x : Value} (F : Fr h₀ L s.heap m) (N : News h₀ L s.heap ((D, listObj vs n) :: rest)) (hoff : ∀ p ∈ rest, p.1 ≠ D) (hz : vs.length ≤ 100000)
    (h : ∀ h', Fr h₀ L h' m → News h₀ L h' ((D, listObj (vs ++ [x]) (n + 1)) :: rest) → Q .none { s with heap := h' }) : wpAny (model prog w) A (call (.builtin "list.append") [.ref D, x]) Q E s :=
  append_K F N (Upd.head hoff) (fun h' F' N' => h h' F' (by rw [List.push_toArray] at N'; exact N')) (by rw [List.size_toArray, sizeLine_eq]; omega)
theorem extend_L (F : Fr h₀ L s.heap m) (N : News h₀ L s.heap ((D, listObj vs n) :: rest)) (hb : (b, listObj us n2) ∈ rest) (hoff : ∀ p ∈ rest, p.1 ≠ D) (hz : vs.length ≤ 100000) (hz2 : us.length ≤ 100000)
    (h : ∀ h' n', Fr h₀ L h' m → News h₀ L h' ((D, listObj (vs ++ us) n') :: rest) → Q .none { s with heap := h' }) : wpAny (model prog w) A (call (.builtin "list.extend") [.ref D, .ref b]) Q E s := by
  have hd : ¬(!vs.toArray.isEmpty && Builtin.List.listTooLong (vs.toArray.size + us.toArray.size)) = true := by
    have e : Builtin.List.listTooLong (vs.toArray.size + us.toArray.size) = false := by
      unfold Builtin.List.listTooLong
      simp only [List.size_toArray]
      exact decide_eq_false (by rw [sizeLine_eq]; omega)
    rw [e]; simp
  by_cases hu : us.length = 0
  · have e0 : us = [] := List.length_eq_zero_iff.mp hu
    subst e0
    exact kxn_extend F N (.tail _ hb) rfl (Upd.head hoff) hd (by show vs.length ≤ _; rw [sizeLine_eq]; omega) (by simp only [List.size_toArray]; rw [sizeLine_eq]; omega) fun h' F' N' => h h' n F' (by rw [List.append_nil]; exact N')
  · exact kl_extend F N (.tail _ hb) rfl hu (Upd.head hoff) hd (by show vs.length ≤ _; rw [sizeLine_eq]; omega) (by simp only [List.size_toArray]; rw [sizeLine_eq]; omega) fun h' F' N' => h h' _ F' N'
end
theorem anew_Gr : True := by
  w_top off
  exact True.intro
/-- One thing more: a greatest one opens a new part, another goes to the last part. -/
def partStep (top : Nat) (ps : List (List Nat) × List Nat) (x : Nat) : List (List Nat) × List Nat := if x = top then (ps.1 ++ [ps.2], []) else (ps.1, ps.2 ++ [x])
def partsF (top : Nat) (ns : List Nat) : List (List Nat) × List Nat := ns.foldl (partStep top) ([], [])
def allParts (top : Nat) (ns : List Nat) : List (List Nat) := (partsF top ns).1 ++ [(partsF top ns).2]
def grt : Nat → List Nat → List Nat
  | 0, _ => []
  | f + 1, ns => if ns = [] then [] else (allParts (maxN ns) ns).flatMap (grt f) ++ List.replicate ((allParts (maxN ns) ns).length - 1) (maxN ns)
inductive PartsAre : List (Addr × Obj) → List Value → List (List Nat) → Prop
  | nil : PartsAre [] [] []
  | snoc {led pvs ps a vs n ns} : PartsAre led pvs ps → ThAre vs ns → (∀ p ∈ led, p.1 ≠ a) → PartsAre (led ++ [(a, listObj vs n)]) (pvs ++ [.ref a]) (ps ++ [ns])
theorem PartsAre.length {led : List (Addr × Obj)} {pvs : List Value} {ps : List (List Nat)} (h : PartsAre led pvs ps) : pvs.length = ps.length := by
  induction h with
  | nil => rfl
  | snoc _ _ _ ih => simp [ih]
theorem PartsAre.get {led : List (Addr × Obj)} {pvs : List Value} {ps : List (List Nat)} (h : PartsAre led pvs ps) : ∀ (i : Nat) (v : Value), pvs[i]? = some v → ∃ a vs n ns, v = .ref a ∧ (a, listObj vs n) ∈ led ∧ ps[i]? = some ns ∧ ThAre vs ns ∧ ∀ p ∈ led, p.1 = a → p = (a, listObj vs n) := by
  induction h with
  | nil => intro i v h; simp at h
  | @snoc led pvs ps a vs n ns hp ht ho ih =>
    intro i v hv
    have hl := hp.length
    by_cases hi : i < pvs.length
    · rw [List.getElem?_append_left hi] at hv
      obtain ⟨a', vs', n', ns', rfl, hm, hq, ht', hu⟩ := ih i v hv
      refine ⟨a', vs', n', ns', rfl, List.mem_append_left _ hm, by rw [List.getElem?_append_left (by omega)]; exact hq, ht', fun p hp e => ?_⟩
      rcases List.mem_append.mp hp with hp | hp
      · exact hu p hp e
      · obtain rfl := List.mem_singleton.mp hp
        exact absurd e.symm (ho _ hm)
    · have hi2 := (List.getElem?_eq_some_iff.mp hv).1
      simp only [List.length_append, List.length_cons, List.length_nil] at hi2
      have hie : i = pvs.length := by omega
      subst hie
      rw [List.getElem?_append_right (Nat.le_refl _)] at hv
      simp only [Nat.sub_self, List.getElem?_cons_zero, Option.some.injEq] at hv
      refine ⟨a, vs, n, ns, hv.symm, List.mem_append_right _ (List.mem_singleton.mpr rfl), ?_, ht, fun p hp e => ?_⟩
      · rw [hl, List.getElem?_append_right (Nat.le_refl _)]; simp
      · rcases List.mem_append.mp hp with hp | hp
        · exact absurd e (ho _ hp)
        · exact List.mem_singleton.mp hp
set_option compiler.extract_closed false in
local macro_rules | `(tactic| walk_at "compareOp Eq ref ref") => `(tactic| (k_here; (with_reducible show wpAny _ _ (compareOp CmpOp.Eq (Value.ref _) (Value.ref _)) _ _ _); (with_unfolding_all refine' eq_things ?k1 ?k2 ?k3 ?k4 ?k5 ?_; (case k1 => exact News.isList (by k_asm) (by walk_at "m_mem")); (case k2 => first | assumption | exact ThAre.nil); (case k3 => exact News.isList (by k_asm) (by walk_at "m_mem")); (case k4 => first | assumption | exact ThAre.nil); (case k5 => ktr_units); k_whole)))
theorem th_beq : ∀ x < 9, ∀ y < 9, (th x == th y) = decide (x = y) := by decide +kernel
theorem eq_th {prog : Program} {w : World} {A : Around} {E : Value → Shared → Prop} {s : Shared} {x y : Nat} {t u : Tok} {Q : Value → Shared → Prop} (hx : x < 9) (hy : y < 9) (h : Q (.bool (decide (x = y))) s) :
    wpAny (model prog w) A (compareOp .Eq (.str (th x) t) (.str (th y) u)) Q E s := eq_str (by rw [th_beq x hx y hy]; exact h)
set_option compiler.extract_closed false in
local macro_rules | `(tactic| walk_at "compareOp Eq str str") => `(tactic| (k_here; (with_reducible refine eq_th (by assumption) (by assumption) ?_)))
theorem partsF_len (M : Nat) (l : List Nat) : (partsF M l).1.length ≤ l.length ∧ (partsF M l).2.length ≤ l.length := by
  have h : ∀ (l : List Nat) (acc : List (List Nat) × List Nat), (l.foldl (partStep M) acc).1.length ≤ acc.1.length + l.length ∧ (l.foldl (partStep M) acc).2.length ≤ acc.2.length + l.length := by
    intro l
    induction l with
    | nil => intro acc; simp
    | cons x r ih =>
      intro acc
      have := ih (partStep M acc x)
      rw [List.foldl_cons, List.length_cons]
      unfold partStep at this ⊢
      split at this
      · rename_i h; rw [if_pos h]; simp only [List.length_append, List.length_cons, List.length_nil] at this; omega
      · rename_i h; rw [if_neg h]; simp only [List.length_append, List.length_cons, List.length_nil] at this; omega
  simpa [partsF] using h l ([], [])
theorem item_last {prog : Program} {w : World} {A : Around} {E : Value → Shared → Prop} {s : Shared} {h₀ : Heap} {L l : Addr} {ws : List Value} {nn : Nat} {news : List (Addr × Obj)} {value slice : Expr} {u : Tok} {v : Value} {Q : Value → Shared → Prop} (N : News h₀ L s.heap news) (hm : (l, listObj (ws ++ [v]) nn) ∈ news) (h : Q v s)
    (hs : subscripted slice false (.ref l) (.int (-1) u) = operate [.ref l, .int (-1) u] (getItem (.ref l) (.int (-1) u)) := by with_unfolding_all rfl) :
    wpAny (model prog w) A (subscriptTail value slice (.ref l) (.int (-1) u)) Q E s :=
  tail_any (News.isList N hm).typeIs slot_list_getitem.lookup (wpAny_getItem_list_neg (k := -1) (News.isList N hm) (by decide) (by simp only [List.size_toArray, List.length_append, List.length_cons, List.length_nil]; omega) (by decide) (by simp only [List.size_toArray, List.length_append, List.length_cons, List.length_nil]; rw [show ((-1 : Int) + ((ws.length + (0 + 1) : Nat) : Int)).toNat = ws.length by omega]; simp) h) hs
def GrJ (l : Addr) (vs : List Value) (nn : Nat) (M : Nat) (tM : Tok) (P : Addr) (ns : List Nat) (rest : List (Addr × Obj)) (i : Nat) (m : Str → Option Value) (news : List (Addr × Obj)) : Prop :=
  ∃ a vl nl pvs pn led ps cur, m "things" = some (.ref l) ∧ m "top" = some (.str (th M) tM) ∧ m "parts" = some (.ref P) ∧ news = (a, listObj vl nl) :: (P, listObj (pvs ++ [.ref a]) pn) :: (led ++ (l, listObj vs nn) :: rest) ∧
    PartsAre led pvs ps ∧ ThAre vl cur ∧ partsF M (ns.take i) = (ps, cur) ∧ (∀ p ∈ led ++ (l, listObj vs nn) :: rest, p.1 ≠ a) ∧ (∀ p ∈ led ++ (l, listObj vs nn) :: rest, p.1 ≠ P) ∧ a ≠ P
def GrK (M : Nat) (tM : Tok) (P O : Addr) (PV : List Value) (pn : Nat) (led : List (Addr × Obj)) (gs : List (List Nat)) (i : Nat) (m : Str → Option Value) (news : List (Addr × Obj)) : Prop :=
  ∃ ov on, m "top" = some (.str (th M) tM) ∧ m "parts" = some (.ref P) ∧ m "out" = some (.ref O) ∧ news = (O, listObj ov on) :: (P, listObj PV pn) :: led ∧ ThAre ov (gs.take i).flatten
theorem partsF_flat (M : Nat) (l : List Nat) : (allParts M l).flatten.length + l.count M = l.length ∧ (allParts M l).length = l.count M + 1 := by
  have h : ∀ (l : List Nat) (acc : List (List Nat) × List Nat), ((l.foldl (partStep M) acc).1.flatten.length + (l.foldl (partStep M) acc).2.length + l.count M = acc.1.flatten.length + acc.2.length + l.length) ∧ (l.foldl (partStep M) acc).1.length = acc.1.length + l.count M := by
    intro l
    induction l with
    | nil => intro acc; simp
    | cons x r ih =>
      intro acc
      have := ih (partStep M acc x)
      rw [List.foldl_cons, List.length_cons, List.count_cons]
      by_cases h : x = M
      · have e : partStep M acc x = (acc.1 ++ [acc.2], []) := if_pos h
        rw [e] at this ⊢
        simp only [List.flatten_append, List.length_append, List.flatten_cons, List.flatten_nil, List.append_nil, List.length_nil, List.length_cons] at this
        simp only [h, beq_self_eq_true, if_true]
        omega
      · have e : partStep M acc x = (acc.1, acc.2 ++ [x]) := if_neg h
        rw [e] at this ⊢
        simp only [List.length_append, List.length_nil, List.length_cons] at this
        have hb : (x == M) = false := by simpa using h
        simp only [hb, Bool.false_eq_true, if_false]
        omega
  have := h l ([], [])
  unfold allParts partsF
  simp only [List.flatten_append, List.length_append, List.flatten_cons, List.flatten_nil, List.append_nil, List.length_nil, List.length_cons, Nat.zero_add] at this ⊢
  omega
theorem mem_flatten_len : ∀ (ps : List (List Nat)) (q : List Nat), q ∈ ps → q.length ≤ ps.flatten.length
  | p :: r, q, h => by
    rw [List.flatten_cons, List.length_append]
    rcases List.mem_cons.mp h with rfl | h
    · omega
    · have := mem_flatten_len r q h; omega
theorem parts_short (M : Nat) (ns : List Nat) (hM : M ∈ ns) : (∀ q ∈ allParts M ns, q.length + 1 ≤ ns.length) ∧ (allParts M ns).length ≤ ns.length + 1 := by
  obtain ⟨h1, h2⟩ := partsF_flat M ns
  have h3 : 0 < ns.count M := List.count_pos_iff.mpr hM
  have h4 : ns.count M ≤ ns.length := List.count_le_length
  refine ⟨fun q hq => ?_, by omega⟩
  have := mem_flatten_len _ q hq
  omega
theorem flatten_map_len {g : List Nat → List Nat} : ∀ {ps : List (List Nat)}, (∀ q ∈ ps, (g q).length = q.length) → ((ps.map g).flatten).length = ps.flatten.length
  | [], _ => rfl
  | p :: r, h => by
    rw [List.map_cons, List.flatten_cons, List.flatten_cons, List.length_append, List.length_append, h p (.head _), flatten_map_len fun q hq => h q (.tail _ hq)]
theorem flatten_take_le (ps : List (List Nat)) (i : Nat) : ((ps.take i).flatten).length ≤ ps.flatten.length := by
  have : ps.flatten = (ps.take i).flatten ++ (ps.drop i).flatten := by rw [← List.flatten_append, List.take_append_drop]
  rw [this, List.length_append]; omega
theorem maxN_in {l : List Nat} (h : l ≠ []) : maxN l ∈ l := by
  rcases maxN_mem l 0 with e | e
  · cases l with
    | nil => exact absurd rfl h
    | cons a r =>
      have h1 := (maxN_le (a :: r) 0).2 a (.head _)
      unfold maxN
      rw [e] at h1 ⊢
      have : a = 0 := by omega
      rw [this]; exact .head _
  · exact e
theorem grt_length : ∀ (f : Nat) (ns : List Nat), ns.length ≤ f → (grt f ns).length = ns.length
  | 0, ns, h => by
    have : ns = [] := List.length_eq_zero_iff.mp (by omega)
    subst this; rfl
  | f + 1, ns, h => by
    unfold grt
    by_cases hn : ns = []
    · subst hn; rfl
    · rw [if_neg hn]
      obtain ⟨b1, b2⟩ := parts_short (maxN ns) ns (maxN_in hn)
      obtain ⟨h1, h2⟩ := partsF_flat (maxN ns) ns
      rw [List.length_append, List.length_replicate, List.flatMap_def, flatten_map_len fun q hq => grt_length f q (by have := b1 q hq; omega)]
      omega
theorem rep_are {M : Nat} {tM : Tok} (hM : M < 9) : ∀ k, ThAre (List.replicate k #[Value.str (th M) tM].toList).flatten (List.replicate k M)
  | 0 => .nil
  | k + 1 => .cons M tM hM (rep_are hM k)
theorem greatest_does (w : World) (p : Program) (loose : List Str) (mean : PySem.ExcName → Option Value) (mg mb : Str → Option Value) : ∀ (f : Nat) (l : Addr) (vs : List Value) (ns : List Nat) (nn : Nat) (rest : List (Addr × Obj)),
    ThAre vs ns → ns.length ≤ f → f ≤ 100 → (∀ p ∈ rest, p.1 ≠ l) →
    Does w p loose mean mg mb 167 (f + 2) (96 + 8 * f) [.ref l] [] ((l, listObj vs nn) :: rest) (fun r news' => ∃ a vs', r = .ref a ∧ news' = (a, listObj vs' 0) :: (l, listObj vs nn) :: rest ∧ (∀ p ∈ (l, listObj vs nn) :: rest, p.1 ≠ a) ∧ ThAre vs' (grt f ns)) := by
  intro f
  induction f with
  | zero =>
    intro l vs ns nn rest hv hlf hf hoff
    have hn : ns = [] := List.length_eq_zero_iff.mp (by omega)
    subst hn
    obtain rfl : vs = [] := List.length_eq_zero_iff.mp hv.length
    unfold Does
    k_fill
    intro dp un gd cn cs a ccd cl outer A₀ base h₀ L m s Q E B F X T hk hd hu N hret
    refine wpAny_call ?_
    (k_dflt (refine' code_def ?k1 ?k2 ?k3 ?k4 ?k5 ?kA ?kF ?kK ?k6 ?k7 ?k8 ?k9 ?kB ?_ ?c2 ?c3 ?c4 ?c5; (case kA => exact rfl); (case kF => exact rfl); (case kK => assumption); (case k1 => k_asm); (case k2 => k_asm); (case k3 => k_asm); (case k4 => k_asm); (case k5 => k_asm); (case k6 => k_is); (case k7 => k_is); (case k8 => ktr_room); (case k9 => first | exact BindsTo.of_eq rfl | exact binds_K (by k_in) rfl (by k_is) rfl rfl rfl | (refine' kp_binds ?kx ?ke; (case kx => k_in); (case ke => exact fun _ => rfl))); (case c5 => decide); (case kB => exact locs rfl); (case c2 => exact rfl); (case c3 => exact rfl); (case c4 => exact rfl); k_whole; intro _ _ _ _ _ _ _ _ _; (try dsimp only); (try k_fold)))
    (repeat' (first | (k_unfold; (try dsimp only)) | ((((fail_if_success (with_reducible show wpAny _ _ (exec (Stmt.While _ _ _ _) _) _ _ _)); (fail_if_success (with_reducible show wpAny _ _ (exec (Stmt.For _ _ _ _ _) _) _ _ _)); (fail_if_success (with_reducible show wpAny _ _ (pyIter _) _ _ _)))); walk1) | ((((fail_if_success (with_reducible show wpAny _ _ (exec (Stmt.While _ _ _ _) _) _ _ _)); (fail_if_success (with_reducible show wpAny _ _ (exec (Stmt.For _ _ _ _ _) _) _ _ _)); (fail_if_success (with_reducible show wpAny _ _ (pyIter _) _ _ _)))); dsimp only; walk1) | fail "no step"))
    rename_i l9 h9 F9 N9 l1 kF kN _ _
    exact hret _ _ _ _ (by assumption) (News.tail (News.swap kN)) ⟨_, [], rfl, rfl, off_cons (Nat.ne_of_lt l1.2.1) (off_of_lt l1.2.2), .nil⟩
  | succ f ih =>
    intro l vs ns nn rest hv hlf hf hoff
    unfold Does
    k_fill
    intro dp un gd cn cs a ccd cl outer A₀ base h₀ L m s Q E B F X T hk hd hu N hret
    have hvl := hv.length
    refine wpAny_call ?_
    (k_dflt (refine' code_def ?k1 ?k2 ?k3 ?k4 ?k5 ?kA ?kF ?kK ?k6 ?k7 ?k8 ?k9 ?kB ?_ ?c2 ?c3 ?c4 ?c5; (case kA => exact rfl); (case kF => exact rfl); (case kK => assumption); (case k1 => k_asm); (case k2 => k_asm); (case k3 => k_asm); (case k4 => k_asm); (case k5 => k_asm); (case k6 => k_is); (case k7 => k_is); (case k8 => ktr_room); (case k9 => first | exact BindsTo.of_eq rfl | exact binds_K (by k_in) rfl (by k_is) rfl rfl rfl | (refine' kp_binds ?kx ?ke; (case kx => k_in); (case ke => exact fun _ => rfl))); (case c5 => decide); (case kB => exact locs rfl); (case c2 => exact rfl); (case c3 => exact rfl); (case c4 => exact rfl); k_whole; intro _ _ _ _ _ _ _ _ _; (try dsimp only); (try k_fold)))
    (repeat' (first | (k_unfold; (try dsimp only)) | ((((fail_if_success (with_reducible show wpAny _ _ (exec (Stmt.While _ _ _ _) _) _ _ _)); (fail_if_success (with_reducible show wpAny _ _ (exec (Stmt.For _ _ _ _ _) _) _ _ _)); (fail_if_success (with_reducible show wpAny _ _ (pyIter _) _ _ _)))); walk1) | ((((fail_if_success (with_reducible show wpAny _ _ (exec (Stmt.While _ _ _ _) _) _ _ _)); (fail_if_success (with_reducible show wpAny _ _ (exec (Stmt.For _ _ _ _ _) _) _ _ _)); (fail_if_success (with_reducible show wpAny _ _ (pyIter _) _ _ _)))); dsimp only; walk1) | fail "no step"))
    · rename_i hnil l9 h9 F9 N9 l1 kF kN _ _
      have hn : ns = [] := of_decide_eq_true hnil
      exact hret _ _ _ _ (by assumption) (News.tail (News.swap kN)) ⟨_, [], rfl, rfl, off_cons (Nat.ne_of_lt l1.2.1) (off_of_lt l1.2.2), by rw [hn]; exact .nil⟩
    · rename_i hnil
      have hnn : ns ≠ [] := of_decide_eq_false hnil
      refine max_things rfl (by k_asm) (by k_asm) (by walk_at "m_mem") hv (List.length_pos_iff.mpr hnn) ?_
      intro M tM h10 tk10 hM1 hM2 hM9 F10 N10
      have emax : maxN ns = M := maxN_eq hM1 hM2
      (repeat' (first | (k_unfold; (try dsimp only)) | ((((fail_if_success (with_reducible show wpAny _ _ (exec (Stmt.While _ _ _ _) _) _ _ _)); (fail_if_success (with_reducible show wpAny _ _ (exec (Stmt.For _ _ _ _ _) _) _ _ _)); (fail_if_success (with_reducible show wpAny _ _ (pyIter _) _ _ _)))); walk1) | ((((fail_if_success (with_reducible show wpAny _ _ (exec (Stmt.While _ _ _ _) _) _ _ _)); (fail_if_success (with_reducible show wpAny _ _ (exec (Stmt.For _ _ _ _ _) _) _ _ _)); (fail_if_success (with_reducible show wpAny _ _ (pyIter _) _ _ _)))); dsimp only; walk1) | fail "no step"))
      rename_i a0 _ la P _ lp _ F1 N1 _ _
      refine For_list (l := l) (vs := vs) (nn := nn) (GrJ l vs nn M tM P ns rest) rfl (by k_asm) (News.sub (l' := (a0, listObj [] 0) :: (P, listObj [.ref a0] 0) :: (l, listObj vs nn) :: rest) N1 (by ((intro p hp; simp only [List.mem_cons, List.toList_toArray] at hp ⊢; grind)))) ?_ ?_ ?_ ?_ (by walk_at "m_look")
      · exact ⟨a0, [], 0, [], 0, [], [], [], by walk_at "m_look", by walk_at "m_look", by walk_at "m_look", rfl, .nil, .nil, rfl, off_cons (Nat.ne_of_lt la.2.1) (off_of_lt la.2.2), off_cons (Nat.ne_of_lt lp.2.2.1) (off_of_lt lp.2.2.2), Nat.ne_of_lt lp.1⟩
      · rintro i m₁ news₁ ⟨a, vl, nl, pvs, pn, led, ps, cur, _, _, _, rfl, _⟩
        exact .tail _ (.tail _ (List.mem_append_right _ (.head _)))
      · rintro i v m₁ news₁ h₁ tk₁ I oI hvi ⟨a, vl, nl, pvs, pn, led, ps, cur, hth, htop, hpa, rfl, hpl, hcur, hpf, hoa, hoP, haP⟩ hoI F₁ N₁
        obtain ⟨x, hx⟩ : ∃ x, ns[i]? = some x := ⟨_, List.getElem?_eq_getElem (by have := (List.getElem?_eq_some_iff.mp hvi).1; omega)⟩
        obtain ⟨hx9, tx, hxv⟩ := hv.get i x hx
        obtain rfl : v = .str (th x) tx := Option.some.inj (hvi.symm.trans hxv)
        have hin : i < ns.length := (List.getElem?_eq_some_iff.mp hx).1
        obtain ⟨bl1, bl2⟩ := partsF_len M (ns.take i)
        rw [hpf] at bl1 bl2
        have hti : (ns.take i).length = i := by rw [List.length_take]; omega
        rw [hti] at bl1 bl2
        dsimp only at bl1 bl2
        have hpvl := hpl.length
        have hcl := hcur.length
        have e2 : partsF M (ns.take (i + 1)) = partStep M (partsF M (ns.take i)) x := take_foldl (partStep M) ([], []) ns i x hx
        rw [hpf] at e2
        (repeat' (first | (k_unfold; (try dsimp only)) | ((((fail_if_success (with_reducible show wpAny _ _ (exec (Stmt.While _ _ _ _) _) _ _ _)); (fail_if_success (with_reducible show wpAny _ _ (exec (Stmt.For _ _ _ _ _) _) _ _ _)); (fail_if_success (with_reducible show wpAny _ _ (pyIter _) _ _ _)))); walk1) | ((((fail_if_success (with_reducible show wpAny _ _ (exec (Stmt.While _ _ _ _) _) _ _ _)); (fail_if_success (with_reducible show wpAny _ _ (exec (Stmt.For _ _ _ _ _) _) _ _ _)); (fail_if_success (with_reducible show wpAny _ _ (pyIter _) _ _ _)))); dsimp only; walk1) | fail "no step"))
        · rename_i hxM a' h9 F9 N9 l9
          have N10 := News.sub N9 (l' := (P, listObj (pvs ++ [.ref a]) pn) :: (I, oI) :: (a', listObj [] 0) :: (a, listObj vl nl) :: (led ++ (l, listObj vs nn) :: rest)) (by ((intro p hp; simp only [List.mem_cons, List.toList_toArray] at hp ⊢; grind)))
          clear N9
          have hoI' : P ≠ I := hoI _ (.tail _ (.head _))
          have hoA' : a ≠ I := hoI _ (.head _)
          have hoL : ∀ p ∈ led ++ (l, listObj vs nn) :: rest, p.1 ≠ a' := off_of_lt l9.2.2.2
          refine append_L (by k_asm) N10 (off_cons hoI'.symm (off_cons (Nat.ne_of_gt l9.2.2.1) (off_cons haP hoP))) (by simp; omega) fun h' F' N' => ?_
          clear N10
          (repeat' (first | (k_unfold; (try dsimp only)) | ((((fail_if_success (with_reducible show wpAny _ _ (exec (Stmt.While _ _ _ _) _) _ _ _)); (fail_if_success (with_reducible show wpAny _ _ (exec (Stmt.For _ _ _ _ _) _) _ _ _)); (fail_if_success (with_reducible show wpAny _ _ (pyIter _) _ _ _)))); walk1) | ((((fail_if_success (with_reducible show wpAny _ _ (exec (Stmt.While _ _ _ _) _) _ _ _)); (fail_if_success (with_reducible show wpAny _ _ (exec (Stmt.For _ _ _ _ _) _) _ _ _)); (fail_if_success (with_reducible show wpAny _ _ (pyIter _) _ _ _)))); dsimp only; walk1) | fail "no step"))
          refine TurnEnd.next (by k_asm) (News.sub (l' := (I, oI) :: (a', listObj [] 0) :: (P, listObj ((pvs ++ [.ref a]) ++ [.ref a']) (pn + 1)) :: ((led ++ [(a, listObj vl nl)]) ++ (l, listObj vs nn) :: rest)) N' (by ((intro p hp; simp only [List.mem_append, List.mem_cons, List.mem_singleton, List.not_mem_nil, or_false, List.toList_toArray] at hp ⊢; grind)))) ?_ ⟨a', [], 0, _, _, _, ps ++ [cur], [], by walk_at "m_look", by walk_at "m_look", by walk_at "m_look", rfl, hpl.snoc hcur (fun p hp => hoa p (List.mem_append_left _ hp)), .nil, ?_, ?_, ?_, Nat.ne_of_gt l9.2.2.1⟩
          · refine off_cons (Nat.ne_of_gt l9.1) (off_cons hoI' fun p hp => hoI p ?_)
            simp only [List.mem_append, List.mem_cons, List.mem_singleton, List.not_mem_nil, or_false] at hp ⊢
            grind
          · rw [e2]; simp only [partStep, if_pos hxM]
          · intro p hp
            simp only [List.mem_append, List.mem_cons, List.mem_singleton, List.not_mem_nil, or_false] at hp
            rcases hp with (hp | rfl) | hp
            · exact hoL p (List.mem_append_left _ hp)
            · exact Nat.ne_of_lt l9.2.1
            · exact hoL p (List.mem_append_right _ (List.mem_cons.mpr hp))
          · intro p hp
            simp only [List.mem_append, List.mem_cons, List.mem_singleton, List.not_mem_nil, or_false] at hp
            rcases hp with (hp | rfl) | hp
            · exact hoP p (List.mem_append_left _ hp)
            · exact haP
            · exact hoP p (List.mem_append_right _ (List.mem_cons.mpr hp))
        · rename_i hxM
          refine item_last (by k_asm) (.tail _ (.tail _ (.head _))) ?_
          (repeat' (first | (k_unfold; (try dsimp only)) | ((((fail_if_success (with_reducible show wpAny _ _ (exec (Stmt.While _ _ _ _) _) _ _ _)); (fail_if_success (with_reducible show wpAny _ _ (exec (Stmt.For _ _ _ _ _) _) _ _ _)); (fail_if_success (with_reducible show wpAny _ _ (pyIter _) _ _ _)))); walk1) | ((((fail_if_success (with_reducible show wpAny _ _ (exec (Stmt.While _ _ _ _) _) _ _ _)); (fail_if_success (with_reducible show wpAny _ _ (exec (Stmt.For _ _ _ _ _) _) _ _ _)); (fail_if_success (with_reducible show wpAny _ _ (pyIter _) _ _ _)))); dsimp only; walk1) | fail "no step"))
          have hoA' : a ≠ I := hoI _ (.head _)
          refine append_L (by k_asm) (News.swap N₁) (off_cons hoA'.symm (off_cons haP.symm hoa)) (by omega) fun h' F' N' => ?_
          (repeat' (first | (k_unfold; (try dsimp only)) | ((((fail_if_success (with_reducible show wpAny _ _ (exec (Stmt.While _ _ _ _) _) _ _ _)); (fail_if_success (with_reducible show wpAny _ _ (exec (Stmt.For _ _ _ _ _) _) _ _ _)); (fail_if_success (with_reducible show wpAny _ _ (pyIter _) _ _ _)))); walk1) | ((((fail_if_success (with_reducible show wpAny _ _ (exec (Stmt.While _ _ _ _) _) _ _ _)); (fail_if_success (with_reducible show wpAny _ _ (exec (Stmt.For _ _ _ _ _) _) _ _ _)); (fail_if_success (with_reducible show wpAny _ _ (pyIter _) _ _ _)))); dsimp only; walk1) | fail "no step"))
          refine TurnEnd.next (by k_asm) (News.swap N') (off_cons hoA' fun p hp => hoI p (.tail _ hp)) ⟨a, _, _, pvs, pn, led, ps, cur ++ [x], by walk_at "m_look", by walk_at "m_look", by walk_at "m_look", rfl, hpl, hcur.append (.cons x tx hx9 .nil), ?_, hoa, hoP, haP⟩
          rw [e2]; simp only [partStep, if_neg hxM]
      · rintro m₁ news₁ h₁ tk₁ ⟨a, vl, nl, pvs, pn, led, ps, cur, hth, htop, hpa, rfl, hpl, hcur, hpf, hoa, hoP, haP⟩ F₁ N₁
        have hpv : PartsAre (led ++ [(a, listObj vl nl)]) (pvs ++ [.ref a]) (allParts M ns) := by
          rw [hvl, List.take_length] at hpf
          have e : allParts M ns = ps ++ [cur] := by unfold allParts; rw [hpf]
          rw [e]
          exact hpl.snoc hcur fun p hp => hoa p (List.mem_append_left _ hp)
        have hoP2 : ∀ p ∈ (led ++ [(a, listObj vl nl)]) ++ (l, listObj vs nn) :: rest, p.1 ≠ P := by
          intro p hp
          simp only [List.mem_append, List.mem_cons, List.not_mem_nil, or_false] at hp
          rcases hp with (hp | rfl) | hp
          · exact hoP p (List.mem_append_left _ hp)
          · exact haP
          · exact hoP p (List.mem_append_right _ (List.mem_cons.mpr hp))
        have N₂ := News.sub (l' := (P, listObj (pvs ++ [.ref a]) pn) :: ((led ++ [(a, listObj vl nl)]) ++ (l, listObj vs nn) :: rest)) N₁ (by ((intro p hp; simp only [List.mem_append, List.mem_cons, List.mem_singleton, List.not_mem_nil, or_false, List.toList_toArray] at hp ⊢; grind)))
        clear N₁ hpl hcur hpf hoa hoP
        generalize led ++ [(a, listObj vl nl)] = ledA at hpv hoP2 N₂
        generalize pvs ++ [Value.ref a] = PV at hpv N₂
        (repeat' (first | (k_unfold; (try dsimp only)) | ((((fail_if_success (with_reducible show wpAny _ _ (exec (Stmt.While _ _ _ _) _) _ _ _)); (fail_if_success (with_reducible show wpAny _ _ (exec (Stmt.For _ _ _ _ _) _) _ _ _)); (fail_if_success (with_reducible show wpAny _ _ (pyIter _) _ _ _)))); walk1) | ((((fail_if_success (with_reducible show wpAny _ _ (exec (Stmt.While _ _ _ _) _) _ _ _)); (fail_if_success (with_reducible show wpAny _ _ (exec (Stmt.For _ _ _ _ _) _) _ _ _)); (fail_if_success (with_reducible show wpAny _ _ (pyIter _) _ _ _)))); dsimp only; walk1) | fail "no step"))
        rename_i O _ _ _ lO _ FO NO _ _
        have hoO : ∀ p ∈ (P, listObj PV pn) :: (ledA ++ (l, listObj vs nn) :: rest), p.1 ≠ O := off_cons (Nat.ne_of_lt lO.1) (off_of_lt lO.2)
        refine For_list (l := P) (vs := PV) (nn := pn) (GrK M tM P O PV pn (ledA ++ (l, listObj vs nn) :: rest) ((allParts M ns).map (grt f))) rfl (by k_asm) (by k_asm) ?_ ?_ ?_ ?_ (by walk_at "m_look")
        · exact ⟨[], 0, by walk_at "m_look", by walk_at "m_look", by walk_at "m_look", rfl, .nil⟩
        · rintro i m₁ news₁ ⟨ov, on, _, _, _, rfl, _⟩
          exact .tail _ (.head _)
        · rintro i v m₁ news₁ h₁ tk₁ I oI hvi ⟨ov, on, htop2, hpa2, hou, rfl, hov⟩ hoI F₁ N₁
          obtain ⟨ai, vi, ni, nsi, rfl, hmi, hqi, hti, hui⟩ := hpv.get i v hvi
          obtain ⟨bi1, bi2⟩ := parts_short M ns hM1
          have hii : i < (allParts M ns).length := (List.getElem?_eq_some_iff.mp hqi).1
          have hai : nsi.length ≤ f := by have := bi1 nsi (List.mem_of_getElem? hqi); omega
          have hlo : ov.length ≤ 100 := by
            rw [hov.length]
            obtain ⟨fl1, fl2⟩ := partsF_flat M ns
            have h1 := flatten_take_le ((allParts M ns).map (grt f)) i
            have h2 : (((allParts M ns).map (grt f)).flatten).length = (allParts M ns).flatten.length := flatten_map_len (fun q hq => grt_length f q (by have := bi1 q hq; omega))
            omega
          have hOP : P ≠ O := hoO _ (.head _)
          have hOI : O ≠ I := hoI _ (.head _)
          have hPI : P ≠ I := hoI _ (.tail _ (.head _))
          have haO : ai ≠ O := hoO _ (.tail _ (List.mem_append_left _ hmi))
          have haP2 : ai ≠ P := hoP2 _ (List.mem_append_left _ hmi)
          have haI : ai ≠ I := hoI _ (.tail _ (.tail _ (List.mem_append_left _ hmi)))
          have hsplit : ∀ p ∈ ledA ++ (l, listObj vs nn) :: rest, p.1 = ai → p = (ai, listObj vi ni) := fun p hp e => by
            have z1 := (N₁ p (.tail _ (.tail _ (.tail _ hp)))).1
            have z2 := (N₁ (ai, listObj vi ni) (.tail _ (.tail _ (.tail _ (List.mem_append_left _ hmi))))).1
            rw [e] at z1
            exact Prod.ext e (Option.some.inj (z1.symm.trans z2))
          have hoff9 : ∀ p ∈ (O, listObj ov on) :: (I, oI) :: (P, listObj PV pn) :: (ledA ++ (l, listObj vs nn) :: rest).filter (fun p => decide (p.1 ≠ ai)), p.1 ≠ ai :=
            off_cons haO.symm (off_cons haI.symm (off_cons haP2.symm fun p hp => of_decide_eq_true (List.mem_filter.mp hp).2))
          have N₃ : News _ _ _ ((ai, listObj vi ni) :: (O, listObj ov on) :: (I, oI) :: (P, listObj PV pn) :: (ledA ++ (l, listObj vs nn) :: rest).filter (fun p => decide (p.1 ≠ ai))) := News.sub N₁ fun p hp => by
            rcases List.mem_cons.mp hp with rfl | hp
            · exact .tail _ (.tail _ (.tail _ (List.mem_append_left _ hmi)))
            rcases List.mem_cons.mp hp with rfl | hp
            · exact .tail _ (.head _)
            rcases List.mem_cons.mp hp with rfl | hp
            · exact .head _
            rcases List.mem_cons.mp hp with rfl | hp
            · exact .tail _ (.tail _ (.head _))
            · exact .tail _ (.tail _ (.tail _ (List.mem_filter.mp hp).1))
          clear N₁
          (repeat' (first | (k_unfold; (try dsimp only)) | ((fail_if_success (with_reducible show wpAny _ _ (call (Value.ref 167) _ _) _ _ _)); (((fail_if_success (with_reducible show wpAny _ _ (exec (Stmt.While _ _ _ _) _) _ _ _)); (fail_if_success (with_reducible show wpAny _ _ (exec (Stmt.For _ _ _ _ _) _) _ _ _)); (fail_if_success (with_reducible show wpAny _ _ (pyIter _) _ _ _)))); walk1) | ((fail_if_success (with_reducible show wpAny _ _ (call (Value.ref 167) _ _) _ _ _)); (((fail_if_success (with_reducible show wpAny _ _ (exec (Stmt.While _ _ _ _) _) _ _ _)); (fail_if_success (with_reducible show wpAny _ _ (exec (Stmt.For _ _ _ _ _) _) _ _ _)); (fail_if_success (with_reducible show wpAny _ _ (pyIter _) _ _ _)))); dsimp only; walk1) | fail "no step"))
          refine' Does.use (ih ai vi nsi ni _ hti hai (by omega) hoff9) ?k1 ?k2 ?k3 ?k4 ?kK ?kd ?ku ?kN ?_
          case k1 => k_asm
          case k2 => k_asm
          case k3 => k_asm
          case k4 => k_asm
          case kN => k_asm
          case kK => first | exact rfl | assumption
          case kd => ktr_room
          case ku => ktr_units
          rintro r9 news9 h9 tk9 F9 N9 ⟨r, vr, rfl, rfl, hor, hvr⟩
          try dsimp only
          (repeat' (first | (k_unfold; (try dsimp only)) | ((fail_if_success (with_reducible show wpAny _ _ (call (Value.ref 167) _ _) _ _ _)); (((fail_if_success (with_reducible show wpAny _ _ (exec (Stmt.While _ _ _ _) _) _ _ _)); (fail_if_success (with_reducible show wpAny _ _ (exec (Stmt.For _ _ _ _ _) _) _ _ _)); (fail_if_success (with_reducible show wpAny _ _ (pyIter _) _ _ _)))); walk1) | ((fail_if_success (with_reducible show wpAny _ _ (call (Value.ref 167) _ _) _ _ _)); (((fail_if_success (with_reducible show wpAny _ _ (exec (Stmt.While _ _ _ _) _) _ _ _)); (fail_if_success (with_reducible show wpAny _ _ (exec (Stmt.For _ _ _ _ _) _) _ _ _)); (fail_if_success (with_reducible show wpAny _ _ (pyIter _) _ _ _)))); dsimp only; walk1) | fail "no step"))
          have hrO : r ≠ O := fun e => hor (O, listObj ov on) (.tail _ (.head _)) e.symm
          have hrI : r ≠ I := fun e => hor (I, oI) (.tail _ (.tail _ (.head _))) e.symm
          have N10 : News _ _ _ ((O, listObj ov on) :: (r, listObj vr 0) :: (I, oI) :: (P, listObj PV pn) :: (ledA ++ (l, listObj vs nn) :: rest)) := News.sub N9 fun p hp => by
            rcases List.mem_cons.mp hp with rfl | hp
            · exact .tail _ (.tail _ (.head _))
            rcases List.mem_cons.mp hp with rfl | hp
            · exact .head _
            rcases List.mem_cons.mp hp with rfl | hp
            · exact .tail _ (.tail _ (.tail _ (.head _)))
            rcases List.mem_cons.mp hp with rfl | hp
            · exact .tail _ (.tail _ (.tail _ (.tail _ (.head _))))
            · by_cases e : p.1 = ai
              · rw [hsplit p hp e]; exact .tail _ (.head _)
              · exact .tail _ (.tail _ (.tail _ (.tail _ (.tail _ (List.mem_filter.mpr ⟨hp, decide_eq_true e⟩)))))
          clear N9
          have hlr : vr.length ≤ 100 := by rw [hvr.length, grt_length f nsi hai]; omega
          refine extend_L (by k_asm) N10 (.head _) (off_cons hrO (off_cons hOI.symm hoO)) (by omega) (by omega) fun h' n' F' N' => ?_
          (repeat' (first | (k_unfold; (try dsimp only)) | ((fail_if_success (with_reducible show wpAny _ _ (call (Value.ref 167) _ _) _ _ _)); (((fail_if_success (with_reducible show wpAny _ _ (exec (Stmt.While _ _ _ _) _) _ _ _)); (fail_if_success (with_reducible show wpAny _ _ (exec (Stmt.For _ _ _ _ _) _) _ _ _)); (fail_if_success (with_reducible show wpAny _ _ (pyIter _) _ _ _)))); walk1) | ((fail_if_success (with_reducible show wpAny _ _ (call (Value.ref 167) _ _) _ _ _)); (((fail_if_success (with_reducible show wpAny _ _ (exec (Stmt.While _ _ _ _) _) _ _ _)); (fail_if_success (with_reducible show wpAny _ _ (exec (Stmt.For _ _ _ _ _) _) _ _ _)); (fail_if_success (with_reducible show wpAny _ _ (pyIter _) _ _ _)))); dsimp only; walk1) | fail "no step"))
          refine TurnEnd.next (by k_asm) (News.sub (l' := (I, oI) :: (O, listObj (ov ++ vr) n') :: (P, listObj PV pn) :: (ledA ++ (l, listObj vs nn) :: rest)) N' (by ((intro p hp; simp only [List.mem_append, List.mem_cons, List.mem_singleton, List.not_mem_nil, or_false, List.toList_toArray] at hp ⊢; grind)))) (off_cons hOI fun p hp => hoI p (.tail _ hp)) ⟨_, _, by walk_at "m_look", by walk_at "m_look", by walk_at "m_look", rfl, ?_⟩
          have e9 : ((allParts M ns).map (grt f)).take (i + 1) = ((allParts M ns).map (grt f)).take i ++ [grt f nsi] := by
            rw [List.take_add_one, List.getElem?_map, hqi]; rfl
          rw [e9, List.flatten_append]
          simpa using hov.append hvr
        · rintro m₁ news₁ h₁ tk₁ ⟨ov, on, htop2, hpa2, hou, rfl, hov⟩ F₁ N₁
          obtain ⟨bi1, bi2⟩ := parts_short M ns hM1
          have hpl := hpv.length
          have hPV : PV.length ≤ 200 := by omega
          have hvov := hov.length
          rw [List.take_of_length_le (by rw [List.length_map]; omega)] at hov
          have hlo : ov.length ≤ 100 := by
            rw [hov.length]
            obtain ⟨fl1, fl2⟩ := partsF_flat M ns
            have h2 : (((allParts M ns).map (grt f)).flatten).length = (allParts M ns).flatten.length := flatten_map_len (fun q hq => grt_length f q (by have := bi1 q hq; omega))
            omega
          (repeat' (first | (k_unfold; (try dsimp only)) | ((fail_if_success (with_reducible show wpAny _ _ (call (Value.ref 167) _ _) _ _ _)); (((fail_if_success (with_reducible show wpAny _ _ (exec (Stmt.While _ _ _ _) _) _ _ _)); (fail_if_success (with_reducible show wpAny _ _ (exec (Stmt.For _ _ _ _ _) _) _ _ _)); (fail_if_success (with_reducible show wpAny _ _ (pyIter _) _ _ _)))); walk1) | ((fail_if_success (with_reducible show wpAny _ _ (call (Value.ref 167) _ _) _ _ _)); (((fail_if_success (with_reducible show wpAny _ _ (exec (Stmt.While _ _ _ _) _) _ _ _)); (fail_if_success (with_reducible show wpAny _ _ (exec (Stmt.For _ _ _ _ _) _) _ _ _)); (fail_if_success (with_reducible show wpAny _ _ (pyIter _) _ _ _)))); dsimp only; walk1) | fail "no step"))
          rename Heap.IsList _ _ _ => hli
          rename News _ _ _ _ => Ncur
          have hlt : ∀ p ∈ (l, listObj vs nn) :: rest, _ := fun p hp => Heap.lt_size (Ncur p (.tail _ (.tail _ (.tail _ (List.mem_append_right _ hp))))).1
          have ek : ((PV.length : Int) - 1).toNat = (allParts M ns).length - 1 := by omega
          rw [ek] at hli
          have hrep : ThAre (List.replicate ((allParts M ns).length - 1) #[Value.str (th M) tM].toList).flatten (List.replicate ((allParts M ns).length - 1) M) := rep_are hM9 _
          have hrl := hrep.length
          rw [List.length_replicate] at hrl
          have hrl2 : (List.replicate ((allParts M ns).length - 1) [Value.str (th M) tM]).flatten.length = (allParts M ns).length - 1 := hrl
          have hsz : ov.length + (List.replicate ((allParts M ns).length - 1) [Value.str (th M) tM]).flatten.length ≤ sizeLine := by rw [hrl2, sizeLine_eq]; omega
          refine add_arrays (by k_asm) Ncur (News.isList Ncur (.tail _ (.head _))) hli (fun h' F' N' => ?_) (by simpa only [List.size_toArray] using hsz)
          (repeat' (first | (k_unfold; (try dsimp only)) | ((fail_if_success (with_reducible show wpAny _ _ (call (Value.ref 167) _ _) _ _ _)); (((fail_if_success (with_reducible show wpAny _ _ (exec (Stmt.While _ _ _ _) _) _ _ _)); (fail_if_success (with_reducible show wpAny _ _ (exec (Stmt.For _ _ _ _ _) _) _ _ _)); (fail_if_success (with_reducible show wpAny _ _ (pyIter _) _ _ _)))); walk1) | ((fail_if_success (with_reducible show wpAny _ _ (call (Value.ref 167) _ _) _ _ _)); (((fail_if_success (with_reducible show wpAny _ _ (exec (Stmt.While _ _ _ _) _) _ _ _)); (fail_if_success (with_reducible show wpAny _ _ (exec (Stmt.For _ _ _ _ _) _) _ _ _)); (fail_if_success (with_reducible show wpAny _ _ (pyIter _) _ _ _)))); dsimp only; walk1) | fail "no step"))
          refine hret _ _ _ _ (by assumption) (News.sub (l' := (_, listObj (ov ++ (List.replicate ((allParts M ns).length - 1) #[Value.str (th M) tM].toList).flatten) 0) :: (l, listObj vs nn) :: rest) (by k_asm) fun p hp => ?_) ⟨_, _, rfl, rfl, fun p hp => Nat.ne_of_lt (hlt p hp), ?_⟩
          · rcases List.mem_cons.mp hp with rfl | hp
            · exact .head _
            · exact .tail _ (.tail _ (.tail _ (.tail _ (List.mem_append_right _ hp))))
          · have eg : grt (f + 1) ns = ((allParts M ns).map (grt f)).flatten ++ List.replicate ((allParts M ns).length - 1) M := by
              unfold grt
              rw [if_neg hnn, emax, List.flatMap_def]
            rw [eg]
            exact hov.append hrep
theorem anew_RS : True := by
  w_top off
  exact True.intro
section
variable {M : Model} {A : Around} {s : Shared} {env : Env}
theorem execsR {st : Stmt} {rest : List Stmt} {Q : Flow → Shared → Prop}
    (h : wpR M A (exec st env) (fun f s' => match f with | .next => wpR M A (execs rest env) Q s' | f => Q f s') s) : wpR M A (execs (st :: rest) env) Q s := fun Γ p hΓ hg => by
  rw [execs_cons, Sem.wp_bind']
  refine Sem.wp_mono M Γ _ (fun f p' s' h' => ?_) (fun _ _ _ h' => h') _ _ (h Γ p hΓ hg)
  cases f <;> first | exact h' Γ p' hΓ hg | exact h'
theorem execsR_any {st : Stmt} {rest : List Stmt} {Q : Flow → Shared → Prop}
    (h : wpAny M A (exec st env) (fun f s' => match f with | .next => wpR M A (execs rest env) Q s' | f => Q f s') (fun _ _ => False) s) : wpR M A (execs (st :: rest) env) Q s := execsR (wpR_any h)
theorem AssignR {x : Str} {pos' : Pos} {value : Expr} {pos : Pos} {Q : Flow → Shared → Prop}
    (h : wpR M A (eval value env) (fun v s₁ => wpAny M A (storeName env x v) (fun _ => Q .next) (fun _ _ => False) s₁) s)
    (hs : swapsWith value (some (.Name x pos')) pos.line env = pure false := by rfl) : wpR M A (exec (.Assign [.Name x pos'] value pos) env) Q s := fun Γ p hΓ hg => by
  simp only [exec_Assign_Name env x pos' value pos hs, Sem.wp_bind', Sem.wp_cmd_standAt, Sem.wp_bindName, Sem.wp_pure']
  exact Sem.wp_mono M Γ _ (fun v _ s₁ h₁ => h₁ Γ _ hΓ) (fun _ _ _ h' => h') _ _ (h Γ _ hΓ hg)
theorem CallR {id : Str} {p pos : Pos} {args : List Expr} {trees : List (Bool × Sem Value)} {Q : Value → Shared → Prop} (ht : backTo pos (starEach args env) = trees)
    (h : wpAny M A (eval (.Name id p) env) (fun f s₁ => wpR M A (callWith pos f [] trees []) Q s₁) (fun _ _ => False) s) : wpR M A (eval (.Call (.Name id p) args [] pos) env) Q s := by
  subst ht
  exact wpR_anyBind h
theorem splicedR_nil {Q : List Value → Shared → Prop} (h : Q [] s) : wpR M A (spliced []) Q s := wpR_pure h
theorem splicedR_cons {x : Sem Value} {rest : List (Bool × Sem Value)} {Q : List Value → Shared → Prop}
    (h : wpR M A x (fun v s₁ => wpR M A (spliced rest) (fun vs s₂ => Q (v :: vs) s₂) s₁) s) : wpR M A (spliced ((false, x) :: rest)) Q s := by
  rw [spliced]
  refine wpR_bind (wpR_mono h (fun v s₁ h₁ => ?_))
  simp only [Bool.false_eq_true, if_false]
  exact wpR_bind (wpR_pure (wpR_bind (wpR_holding (wpR_mono h₁ (fun vs s₂ h₂ => wpR_pure h₂)))))
theorem evalArgsR {f : Value} {x : Sem Value} {rest : List (Bool × Sem Value)} {Q : Args → Shared → Prop}
    (h : wpR M A (spliced ((false, x) :: rest)) (fun vs s' => Q ⟨vs, []⟩ s') s) : wpR M A (evalArgs f true ((false, x) :: rest) []) Q s := by
  unfold evalArgs
  show wpR M A (spliced ((false, x) :: rest) >>= _) Q s
  refine wpR_bind (wpR_mono h (fun vs s' h' => ?_))
  refine wpR_holding ?_
  exact wpR_bind (wpR_pure (wpR_bind (wpR_pure (wpR_pure h'))))
theorem standR {pos : Pos} {Q : Unit → Shared → Prop} (h : Q () s) : wpR M A (standAt pos) Q s := wpR_any (wpAny_standAt h)
theorem tailR {t : Sem Value} {Q : Value → Shared → Prop} (ht : wpR M A t Q s) : wpR M A (t >>= fun r => holding [r] point >>= fun _ => pure r) Q s :=
  wpR_bind (wpR_mono ht (fun r s₂ hr => wpR_bind (wpR_holding (wpR_any (wpAny_point (wpR_pure hr))))))
theorem callWithR_builtin {pos : Pos} {id : String} {first : List Value} {x : Sem Value} {rest : List (Bool × Sem Value)} {Q : Value → Shared → Prop} (hplain : ((false, x) :: rest).any (·.1) = false)
    (h : wpR M A (spliced ((false, x) :: rest)) (fun vs s₁ => wpR M A (call (.builtin id) (first ++ vs) []) Q s₁) s) : wpR M A (callWith pos (.builtin id) first ((false, x) :: rest) []) Q s := by
  unfold callWith
  refine wpR_bind (wpR_holding (evalArgsR (wpR_mono h (fun a s₁ h₁ => wpR_bind (standR ?_)))))
  simp only [hplain, List.any_nil, Bool.or_false]
  refine wpR_bind (wpR_pure ?_)
  exact tailR h₁
theorem callWithR_type {pos : Pos} {T : String} {x : Sem Value} {rest : List (Bool × Sem Value)} {Q : Value → Shared → Prop} (hplain : ((false, x) :: rest).any (·.1) = false)
    (h : wpR M A (spliced ((false, x) :: rest)) (fun vs s₁ => wpR M A (call (.type T) vs []) Q s₁) s) : wpR M A (callWith pos (.type T) [] ((false, x) :: rest) []) Q s := by
  unfold callWith
  refine wpR_bind (wpR_holding (evalArgsR (wpR_mono h (fun a s₁ h₁ => wpR_bind (standR ?_)))))
  simp only [hplain, List.any_nil, Bool.or_false]
  refine wpR_bind (wpR_pure ?_)
  exact tailR h₁
theorem callWithR_def {pos : Pos} {a : Addr} {first : List Value} {x : Sem Value} {rest : List (Bool × Sem Value)} {Q : Value → Shared → Prop} (hplain : ((false, x) :: rest).any (·.1) = false)
    (h : wpR M A (spliced ((false, x) :: rest)) (fun vs s₁ => (∃ o fd, s₁.heap.get? a = some o ∧ o.data = .func fd) ∧ wpR M A (call (.ref a) (first ++ vs) []) Q s₁) s) :
    wpR M A (callWith pos (.ref a) first ((false, x) :: rest) []) Q s := by
  unfold callWith
  refine wpR_bind (wpR_holding (evalArgsR (wpR_mono h (fun vs s₁ h₁ => wpR_bind (standR ?_)))))
  obtain ⟨⟨o, fd, ho, hd⟩, h₁⟩ := h₁
  simp only [hplain, List.any_nil, Bool.or_false]
  refine wpR_bind (m := keeperOf (.ref a)) (wpR_any ?_)
  unfold keeperOf
  refine wpAny_bind (wpAny_load ho ?_)
  rw [hd]
  refine wpAny_pure ?_
  dsimp only
  split
  · exact tailR h₁
  · exact tailR (by unfold callMarked; exact wpR_keep h₁)
end
section
variable {prog : Program} {w : World} {A : Around} {s : Shared} {env : Env}
theorem ExprR {e : Expr} {pos : Pos} {Q : Flow → Shared → Prop} (h : wpR (model prog w) A (eval e env) (fun _ => Q .next) s)
    (hi : interactive env = false := by rfl) (hs : swapsWith e none pos.line env = pure false := by rfl) : wpR (model prog w) A (exec (.Expr e pos) env) Q s := by
  rw [exec_Expr env e pos hi hs]
  exact wpR_bind (standR (wpR_bind (wpR_mono h (fun v s' h' => wpR_any (wpAny_dropValue h')))))
theorem MethodR {o : Expr} {name : Str} {apos pos : Pos} {args : List Expr} {trees : List (Bool × Sem Value)} {Q : Value → Shared → Prop}
    (hbase : attributeBase o name env (eval o env) = eval o env)
    (hfew : ((backTo pos (starEach args env)).all (fun x => !x.1) && (backToKw pos (keywordEach [] env)).all (fun x => x.1.isSome)
      && decide (args.length + ([] : List Keyword).length + (if ([] : List Keyword).isEmpty then 0 else 1) < 30)) = true)
    (hline : (apos.endLine == pos.line) = true) (htrees : backTo pos (starEach args env) = trees)
    (h : wpR (model prog w) A (eval o env) (fun ov s₁ => ∃ T id, PlainAttrs T ∧ Slot T name id ∧ typeOf (.builtin id) = pure (.type "method_descriptor") ∧ s₁.TypeIs ov T ∧ (∀ a, ov = .ref a → ∃ ob, s₁.heap.get? a = some ob ∧ ob.dict = none) ∧
      wpR (model prog w) A (callWith pos (.builtin id) [ov] trees []) Q s₁) s) :
    wpR (model prog w) A (eval (.Call (.Attribute o name apos) args [] pos) env) Q s := by
  subst htrees
  rw [arm_eval_Call, hbase]
  refine wpR_bind (wpR_mono h (fun ov s₁ h₁ => ?_))
  obtain ⟨T, id, pa, slot, hty, hT, hd, hc⟩ := h₁
  refine wpR_bind (standR ?_)
  have hform : methodCallForm (args.length + ([] : List Keyword).length) (backTo pos (starEach args env)) (backToKw pos (keywordEach [] env)) = true := hfew
  have hpos : methodCallPos true o env apos pos = pure pos := by unfold methodCallPos; simp [hline]
  unfold methodCall
  rw [hform]
  refine wpR_bind (wpR_holding (wpR_any (getMethod_builtin hT pa slot hty hd ?_)))
  rw [hpos]
  exact wpR_bind (wpR_pure hc)
theorem ForR {target : Expr} {iter : Expr} {body orelse : List Stmt} {pos : Pos} {Q : Flow → Shared → Prop}
    (h : wpAny (model prog w) A (eval iter env) (fun x s₁ => wpAny (model prog w) A (pyIter x) (fun it s₂ => codeR (model prog w) A (.forLoop target it body orelse env) Q s₂) (fun _ _ => False) s₁) (fun _ _ => False) s)
    (hs : ∀ x, foldedSetIterable iter env x = pure x := by intro _; rfl) : wpR (model prog w) A (exec (.For target iter body orelse pos) env) Q s := by
  rw [exec_For]
  refine wpR_bind (standR (wpR_anyBind (wpAny_mono h (fun x s₁ h₁ => ?_) fun _ _ h' => h')))
  rw [hs x]
  refine wpR_bind (wpR_pure (wpR_bind (standR (wpR_bind (wpR_holding (wpR_any (wpAny_mono h₁ (fun it s₂ h₂ => ?_) fun _ _ h' => h')))))))
  unfold runOwn
  exact wpR_onRaise (wpR_run h₂)
theorem codeR_block {stmts : List Stmt} {R : Flow → Shared → Prop} (h : wpR (model prog w) A (execs stmts env) R s) : codeR (model prog w) A (.block stmts env) R s := by
  refine codeR_tree rfl ?_
  show wpR _ _ (do return Fin.done (← (execs stmts env).onRaise (fun x => do noteFrame x env; theTreesLotGoes x))) _ s
  exact wpR_bind (wpR_onRaise (wpR_mono h (fun f s' h' => wpR_pure h')))
theorem codeR_forLoop {R : Flow → Shared → Prop} {target : Expr} {it : Value} {body : List Stmt} (I : Nat → Shared → Prop)
    (turn : ∀ n s, I n s → wpAny (model prog w) A (pyNext it) (fun r s₁ => match r with
      | none => R .next s₁
      | some v => wpAny (model prog w) A (assign target env v) (fun _ s₂ => wpR (model prog w) A (execs body env) (fun f s₃ => match f with
          | .next | .cont => ∃ m, m < n ∧ I m s₃
          | .brk => R .next s₃
          | .ret v => R (.ret v) s₃) s₂) (fun _ _ => False) s₁) (fun _ _ => False) s)
    (n : Nat) (h : I n s) (ht : ∀ v, letOwnedTupleGo target it v = pure () := by intro _; rfl) : codeR (model prog w) A (.forLoop target it body [] env) R s := by
  induction n using Nat.strongRecOn generalizing s with
  | ind n ih =>
    refine codeR_tree rfl ?_
    show wpR _ _ ((forTurn target it body [] env).onRaise (fun x => do noteFrame x env; theTreesLotGoes x)) _ s
    refine wpR_onRaise ?_
    simp only [forTurn]
    refine wpR_bind (standR (wpR_bind (wpR_onRaise (wpR_any (wpAny_mono (turn n s h) (fun r s₁ h₁ => ?_) fun _ _ h' => h')))))
    cases r with
    | none => exact wpR_pure ⟨rfl, codeR_block (wpR_any (wpAny_execs_nil h₁))⟩
    | some v =>
      dsimp only
      rw [ht v]
      refine wpR_bind (wpR_pure (wpR_bind (wpR_any (wpAny_mono h₁ (fun _ s₂ h₂ => wpR_bind (wpR_mono h₂ (fun f s₃ h₃ => ?_))) fun _ _ h' => h'))))
      cases f with
      | next => obtain ⟨m, hm, hI⟩ := h₃; exact wpR_pure ⟨rfl, ih m hm hI⟩
      | cont => obtain ⟨m, hm, hI⟩ := h₃; exact wpR_pure ⟨rfl, ih m hm hI⟩
      | brk => exact wpR_pure h₃
      | ret v => exact wpR_pure h₃
theorem codeR_func {body : List Stmt} {R : Flow → Shared → Prop}
    (h : wpR (model prog w) (A.deeper env) (execs body env) (fun f s' => R (.ret (match f with | .ret v => v | _ => .none)) s') s) : codeR (model prog w) A (.func body env) R s := by
  refine codeR_tree rfl ?_
  show wpR _ (A.deeper env) (do point; match ← (execs body env).onRaise (leaving env) with | .ret v => ret v | _ => ret .none) _ s
  refine wpR_bind (wpR_any (wpAny_point (wpR_bind (wpR_onRaise (wpR_mono h (fun f s' h' => ?_))))))
  cases f <;> exact wpR_pure h'
theorem codeR_call_function {a : Addr} {args : Args} {o : Obj} {fd : FuncData} {body : List Stmt} {R : Flow → Shared → Prop} (hroom : A.depth < recursionLimit) (ho : s.heap.get? a = some o)
    (hd' : o.data = .func fd) (hco : fd.scope.isCoroutine = false) (hgen : fd.scope.isGenerator = false) (hbody : fd.body = .stmts body) (hcd : s.heap.CodeRec fd.code fd.qualname)
    (h : wpAny (model prog w) A.in1 (bindArgs fd args) (fun binds s₁ =>
      wpAny (model prog w) A.in1 (newFunctionEnv fd.scope fd.globals fd.closure binds (fd.qualname ++ ".<locals>.") (some a) fd.code none fd.builtins)
        (fun env s₂ => s₂.heap.NoLimit ∧ codeR (model prog w) A (.func body env) R s₂) (fun _ _ => False) s₁) (fun _ _ => False) s) :
    codeR (model prog w) A (.call (.ref a) args) R s := by
  refine codeR_tree rfl ?_
  show wpR _ A.in1 (callAny (.ref a) args) _ s
  simp only [callAny]
  refine wpR_bind (wpR_any (wpAny_load ho ?_))
  obtain ⟨c, oc, vs, tq, hc, hoc, hdc, hq⟩ := hcd
  simp only [hd', callFunction, hco, hgen, hbody, hc]
  rw [hc] at h
  refine wpR_bind (m := field (.ref c) 1) (wpR_any (wpAny_field hoc hdc hq (wpR_bind (wpR_pure ?_))))
  exact wpR_any (wpAny_bind (wpAny_mono h (fun binds s₁ h₁ => wpAny_bind (wpAny_mono h₁ (fun env s₂ h₂ => wpAny_bind (wpAny_enterFrame h₂.1 hroom
    (wpAny_pure (And.intro rfl h₂.2)))) fun _ _ h' => h')) fun _ _ h' => h'))
end
theorem anew_DR : True := by
  w_top off
  exact True.intro
section
variable {prog : Program} {w : World} {A₀ A : Around} {s : Shared} {base h₀ : Heap} {outer : List Env} {L : Addr} {m : Str → Option Value} {news : List (Addr × Obj)} {K : Frag} {p : Program} {loose : List Str} {mean : PySem.ExcName → Option Value} {mg mb : Str → Option Value}
abbrev OkRet (R : Value → Shared → Prop) (r : Result) (s' : Shared) : Prop := ∃ v, r = .ok (.ret v) ∧ R v s'
theorem code_defR {env : Env} {R : Value → Shared → Prop} {name qual : Str} {params : Arguments} {body : List Stmt} {scope : Scope} {dV kV doc pm cdv ct oc : Value} {an od : Option Addr} {osl : Array (Option Value)} {f : Addr} {args : Args} {binds : List (Str × Value)}
    (B : Below A₀ base outer h₀) (F : Fr h₀ L s.heap m) (X₀ : K.In h₀) (N : News h₀ L s.heap news) (T : Top p loose mean mg mb h₀) (hA : A.frames = some (env :: outer)) (hf : env.frame = some L) (hke : env.scope.kind = .function)
    (ho : K.lookup f = some ⟨oc, od, .func (fnOf name qual params body scope dV kV doc pm an cdv ct), osl⟩) (hcd : codeIn K cdv qual = true) (hroom : A.depth < recursionLimit)
    (hbind : BindsTo s (fnOf name qual params body scope dV kV doc pm an cdv ct) args binds) (hloc : ∀ y ∈ binds, scope.names.lookup y.1 = some .local)
    (h : ∀ g L' h₁, Fr h₀ L g m → Fr g L' h₁ (fun y => binds.reverse.lookup y) → News g L' h₁ news → Below A base (env :: outer) g → K.In g → Top p loose mean mg mb g →
      wpR (model prog w) (A.deeper (envOf qual scope L' f cdv)) (execs body (envOf qual scope L' f cdv))
        (fun fl s' => LeaveK h₀ L m g (OkRet R) (match fl with | .ret v => v | _ => .none) s')
        { s with heap := h₁, toks := s.toks + binds.length })
    (hco : scope.isCoroutine = false) (hgen : scope.isGenerator = false) (hk : scope.kind = .function)
    (hcell : ∀ x ∈ scope.names, x.2 ≠ .cell) : codeR (model prog w) A (.call (.ref f) args) (fun fl s' => ∃ v, fl = .ret v ∧ R v s') s := by
  obtain ⟨FG, BG, st, lv⟩ := groundX (R := OkRet R) B F N hA hf hke
  refine codeR_call_function hroom ((X₀.keeps F.keep) _ _ ho) rfl hco hgen rfl (codeRec_of (X₀.keeps F.keep) hcd) (hbind _ _ _ _ ?_)
  refine wpAny_newFunctionEnv hcell hloc (fun h₁ hns₁ hsb₁ => ⟨(T.nolimit.keeps F.keep).fresh _ hsb₁, codeR_func ?_⟩) hk
  have hk₁ : ∀ b o, s.heap.get? b = some o → h₁.get? b = some o := fun b o e => hsb₁.extBut b o (Nat.ne_of_lt (Heap.lt_size e)) (Heap.get?_push_of_some _ e)
  refine wpR_mono (h _ s.heap.objs.size h₁ FG ⟨hns₁, fun b o e => hk₁ b o (of_hideAll _ e), Nat.le_of_eq (hideAll_size _ _)⟩
    (fun p hp => ⟨hk₁ _ _ (N p hp).1, Nat.ne_of_lt (Heap.lt_size (N p hp).1), hideAll_none _ (List.mem_map_of_mem hp)⟩) BG (X₀.keeps st) (T.keeps st)) fun fl s' hl => ?_
  obtain ⟨v, e, hv⟩ := lv _ _ hl
  injection e with e
  injection e with e
  subst e
  exact ⟨_, rfl, hv⟩
end
/-- As Does, in the own logic. -/
def DoesR (w : World) (p : Program) (loose : List Str) (mean : PySem.ExcName → Option Value) (mg mb : Str → Option Value) (f : Addr) (D U : Nat) (args : List Value) (kw : List (Str × Value)) (news : List (Addr × Obj)) (Post : Value → List (Addr × Obj) → Prop) : Prop :=
  ∀ (dp un : Nat) (gd : Option (List Code)) (cn : Str) (cs : Scope) (a : Addr) (ccd : Value) (cl : List (Str × Addr)) (outer : List Env) (A₀ : Around) (base h₀ : Heap) (L : Addr) (m : Str → Option Value) (s : Shared) (Q : Value → Shared → Prop),
    Below A₀ base outer h₀ → Fr h₀ L s.heap m → (hd.heap_1 w.params).In h₀ → Top p loose mean mg mb h₀ → cs.kind = .function → dp + D < recursionLimit → un + U < cLine → News h₀ L s.heap news →
    (∀ r news' h' tk', Fr h₀ L h' m → News h₀ L h' news' → Post r news' → Q r { s with heap := h', toks := tk' }) →
    wpR (model PySem.Challenge.rw_xp0010_01.row.prog w) (ktrTop dp un gd cn cs L a ccd cl outer) (call (.ref f) args kw) Q s
theorem DoesR.use {w : World} {p : Program} {loose : List Str} {mean : PySem.ExcName → Option Value} {mg mb : Str → Option Value} {f : Addr} {D U : Nat} {args : List Value} {kw : List (Str × Value)} {news : List (Addr × Obj)} {Post : Value → List (Addr × Obj) → Prop}
    {dp un : Nat} {gd : Option (List Code)} {cn : Str} {cs : Scope} {a : Addr} {ccd : Value} {cl : List (Str × Addr)} {outer : List Env} {A₀ : Around} {base h₀ : Heap} {L : Addr} {m : Str → Option Value} {s : Shared} {Q : Value → Shared → Prop}
    (C : DoesR w p loose mean mg mb f D U args kw news Post) (B : Below A₀ base outer h₀) (F : Fr h₀ L s.heap m) (X : (hd.heap_1 w.params).In h₀) (T : Top p loose mean mg mb h₀) (hk : cs.kind = .function) (hd : dp + D < recursionLimit) (hu : un + U < cLine) (N : News h₀ L s.heap news)
    (ret : ∀ r news' h' tk', Fr h₀ L h' m → News h₀ L h' news' → Post r news' → Q r { s with heap := h', toks := tk' }) :
    wpR (model PySem.Challenge.rw_xp0010_01.row.prog w) (ktrTop dp un gd cn cs L a ccd cl outer) (call (.ref f) args kw) Q s := C _ _ _ _ _ _ _ _ _ _ _ _ _ _ _ _ B F X T hk hd hu N ret
theorem anew_Ba : True := by
  w_top off
  exact True.intro
theorem ba_mro : mroOf (.type "bytearray") = pure [.type "bytearray", .type "object"] := by rw [mroOf_type]; kernel_rfl
theorem ba_lookup_new : typeLookup (.type "bytearray") "__new__" = pure (some (.builtin "bytearray.__new__")) := by rw [typeLookup_type, builtinLookup_eq_fast]; kernel_rfl
theorem ba_slot_init : Slot "bytearray" "__init__" "bytearray.__init__" :=
  .of (owner := "bytearray") (n := "__init__") (by rw [typeLookup_type, builtinLookup_eq_fast]; kernel_rfl) (by decide +kernel) (by decide +kernel) (by decide +kernel)
    (by first | exact .inl (by decide +kernel) | exact .inr (by decide +kernel)) (by rw [isSubtype_type]; kernel_rfl)
theorem ba_called : TypeCalled "bytearray" "bytearray.__new__" "bytearray.__init__" :=
  ⟨by decide +kernel, by decide +kernel, ⟨_, _, ba_mro⟩, madeBy_type ba_mro ba_lookup_new (by decide +kernel), by decide +kernel, by rw [isSubtype_type]; kernel_rfl, ba_slot_init⟩
theorem ba_typeCall (a : Value) : checkTypeCall "bytearray" ⟨[a], []⟩ = pure () := by kernel_rfl
theorem ba_newCall (a : Value) : checkBuiltinCall "bytearray.__new__" ⟨[.type "bytearray", a], []⟩ = pure () := by kernel_rfl
theorem ba_entry_new : entryFor table "bytearray.__new__" = some Builtin.«list.__new__» := entryFor_alias (id' := "list.__new__") (by rw [fastTable_eq_tree]; kernel_rfl) (by decide +kernel) (by decide +kernel) (by rw [fastTable_eq_tree]; kernel_rfl)
theorem ba_entry_init : entryFor table "bytearray.__init__" = some Builtin.«bytearray.__init__» := by first | exact entryFor_of_fast (by kernel_rfl) | exact entryFor_of_tree (by kernel_rfl)
theorem ba_plain_new : plainId "bytearray.__new__" = true := by decide +kernel
set_option maxRecDepth 1000000 in
theorem ba_owner : ("bytearray.__new__".splitOn ".__new__").headD "" = "bytearray" := by simp +decide [String.splitOn, String.splitOnAux]
theorem ba_sub : isSubtype (.type "bytearray") (.type "bytearray") = pure true := by rw [isSubtype_type]; kernel_rfl
theorem ba_args (a : Value) (v : Value) : argsOk "bytearray.__init__" ⟨[a, v], []⟩ := by first | rfl | decide
theorem ba_bind (v : Value) : Builtin.Bytes.bindOptional "bytearray.__init__" "bytearray" ["source", "encoding", "errors"] [v] [] = pure [some v, none, none] := by kernel_rfl
section
variable {prog : Program} {w : World} {A : Around} {E : Value → Shared → Prop} {s : Shared}
abbrev baObj (b : Array UInt8) : Obj := { cls := .type "bytearray", data := .bytearray b }
theorem ba_new (a : Value) {Q₁ : Value → Shared → Prop} (h : Q₁ (.ref s.heap.objs.size) { s with heap := s.heap.push (baObj #[]) }) :
    codeAny (model prog w) A (.call (.builtin "bytearray.__new__") ⟨[.type "bytearray", a], []⟩) (wants Q₁ E) s := by
  refine codeAny_of_tree ?_
  show wpAny _ A.in1 (do checkBuiltinCall "bytearray.__new__" ⟨[.type "bytearray", a], []⟩; again (.builtin "bytearray.__new__" ⟨[.type "bytearray", a], []⟩)) _ _ s
  refine wpAny_bind (wpAny_of_eq (ba_newCall a) (wpAny_pure ⟨plainId_quiet ba_plain_new _, codeAny_builtin_stack ba_entry_new rfl fun p st => ?_⟩))
  rw [Around.under_plainId ba_plain_new _]
  have hsub := ba_sub
  have hown := ba_owner
  obtain ⟨hp, g, d, tk, os⟩ := s
  simp only [hown]
  wp_walk
  exact h
theorem ba_none (s : Shared) : s.TypeIs .none "NoneType" := rfl
theorem ba_release : ∃ id, typeLookup (.type "bytearray") "__release_buffer__" = pure (some (.builtin id)) ∧ (!id.endsWith ("." ++ "__release_buffer__")) = false ∧ isSubtype (.type "bytearray") (.type (id.dropRight (("__release_buffer__" : String).length + 1))) = pure true :=
  ⟨"bytearray.__release_buffer__", by rw [typeLookup_type, builtinLookup_eq_fast]; kernel_rfl, by decide +kernel, by rw [show (("bytearray.__release_buffer__" : String).dropRight (("__release_buffer__" : String).length + 1)) = "bytearray" from by decide +kernel]; exact ba_sub⟩
theorem ba_int_index : typeLookup (.type "int") "__index__" = pure (some (.builtin "int.__index__")) := by rw [typeLookup_type, builtinLookup_eq_fast]; kernel_rfl
theorem wpR_ite_f {α : Type} {M : Model} {c : Bool} {a b : Sem α} {Q : α → Shared → Prop} (hc : c = false) (h : wpR M A b Q s) : wpR M A (if c = true then a else b) Q s := by
  subst hc
  exact h
theorem wpR_ite_t {α : Type} {M : Model} {c : Bool} {a b : Sem α} {Q : α → Shared → Prop} (hc : c = true) (h : wpR M A a Q s) : wpR M A (if c = true then a else b) Q s := by
  subst hc
  exact h
theorem wpR_eq {α : Type} {M : Model} {t : Sem α} {a : α} {Q : α → Shared → Prop} (e : t = pure a) (h : Q a s) : wpR M A t Q s := wpR_any (wpAny_of_eq e h)
theorem ba_payload {M : Model} {a : Addr} {b : Array UInt8} {Q : Array UInt8 → Shared → Prop} (ha : s.heap.get? a = some (baObj b)) (h : Q b s) : wpAny M A (Builtin.Bytes.payload (.ref a)) Q E s := by
  unfold Builtin.Bytes.payload Builtin.Bytes.payload?
  refine wpAny_bind (wpAny_bind (wpAny_load ha ?_))
  exact wpAny_pure (wpAny_pure h)
theorem ba_write {M : Model} {a : Addr} {b : Array UInt8} {f : Array UInt8 → Array UInt8} {Q : Unit → Shared → Prop} (ha : s.heap.get? a = some (baObj b)) (hz : (f b).size ≤ 1000)
    (h : ∀ h', h'.get? a = some (baObj (f b)) → Heap.SameBut a s.heap h' → Q () { s with heap := h' }) : wpAny M A (Builtin.Bytes.write (.ref a) f) Q E s := by
  unfold Builtin.Bytes.write updateBytearray
  refine wpAny_bind (wpAny_load ha ?_)
  show wpAny _ _ (update a (Obj.mapBytearray f) >>= fun _ => lookBehind a) _ _ _
  refine wpAny_bind (wpAny_update ha ?_)
  have h2 : (s.heap.update a (Obj.mapBytearray f)).get? a = some (baObj (f b)) := Heap.get?_update_self (Obj.mapBytearray f) ha rfl
  refine wpAny_lookBehind h2 ?_ (h _ h2 (Heap.SameBut.update ..))
  show (if (f b).size > sizeLine then some "bytearray:memory" else none) = none
  rw [if_neg]
  have : (1000 : Nat) ≤ sizeLine := by decide +kernel
  omega
theorem ba_p63 : (2 : Int) ^ 63 = 9223372036854775808 := by decide
theorem ba_fits {n : Nat} (hn : n ≤ 1000) : (!Builtin.Bytes.fitsIndex (n : Int)) = false := by
  unfold Builtin.Bytes.fitsIndex
  rw [ba_p63]
  have h1 : decide (-9223372036854775808 ≤ (n : Int)) = true := decide_eq_true (by omega)
  have h2 : decide ((n : Int) < 9223372036854775808) = true := decide_eq_true (by omega)
  rw [h1, h2]; rfl
theorem ba_not63 {n : Nat} (hn : n ≤ 1000) : ((n : Int) == 2 ^ 63 - 1) = false := by
  rw [ba_p63]
  exact beq_eq_false_iff_ne.mpr (by omega)
theorem ba_short {n : Nat} (hn : n ≤ 1000) : Builtin.Bytes.tooLong (n : Int).toNat = false := by
  unfold Builtin.Bytes.tooLong
  have : (1000 : Nat) ≤ sizeLine := by decide +kernel
  exact decide_eq_false (by omega)
theorem ba_asStr {n : Nat} {t : Tok} : asStr? (Value.int (n : Nat) t) = pure none := rfl
theorem ba_asIndex {n : Nat} {t : Tok} : asIndex (Value.int (n : Nat) t) = pure (n : Int) := rfl
theorem any_if_neg {α : Type} {M : Model} {c : Prop} [Decidable c] {a b : Sem α} {Q : α → Shared → Prop} (hc : ¬ c) (h : wpAny M A b Q E s) : wpAny M A (if c then a else b) Q E s := by
  rw [if_neg hc]; exact h
theorem any_if_pos {α : Type} {M : Model} {c : Prop} [Decidable c] {a b : Sem α} {Q : α → Shared → Prop} (hc : c) (h : wpAny M A a Q E s) : wpAny M A (if c then a else b) Q E s := by
  rw [if_pos hc]; exact h
theorem ba_init {a : Addr} {n : Nat} {t : Tok} {Q : Fin → Shared → Prop} (ha : s.heap.get? a = some (baObj #[])) (hn : n ≤ 1000)
    (h : ∀ h', h'.get? a = some (baObj (Array.replicate n 0)) → (∀ b o, b ≠ a → s.heap.get? b = some o → h'.get? b = some o) → Q (.done (.ret .none)) { s with heap := h' }) :
    wpR (model prog w) A (Builtin.«bytearray.__init__» ⟨[.ref a, .int (n : Nat) t], []⟩) Q s := by
  have hT : s.TypeIs (.ref a) "bytearray" := ⟨_, ha, rfl⟩
  obtain ⟨rid, hr1, hr2, hr3⟩ := ba_release
  unfold Builtin.«bytearray.__init__»
  dsimp -zeta only
  refine wpR_bind (wpR_any ?_)
  unfold Builtin.Bytes.ownRelease Builtin.Bytes.slotIsOwn
  refine wpAny_bind (wpAny_bind (wpAny_specialOf hT hr1 ?_))
  dsimp -zeta only
  refine bm_if_false hr2 ?_
  refine wpAny_isInstance hT hr3 (wpAny_pure ?_)
  refine wpR_ite_f rfl ?_
  refine wpR_bind (wpR_eq (ba_bind _) ?_)
  refine wpR_bind (wpR_eq (a := ()) rfl ?_)
  refine wpR_bind (wpR_eq (a := ()) rfl ?_)
  refine wpR_bind ?_
  show wpR _ _ (Builtin.Bytes.exported (.ref a) >>= _) _ _
  refine wpR_bind (wpR_exported ?_)
  refine wpR_any (wpAny_bind ?_)
  unfold Builtin.Bytes.exportsOf
  refine wpAny_bind (wpAny_load ha ?_)
  refine wpAny_pure (wpAny_pure ?_)
  refine wpR_ite_f rfl ?_
  refine wpR_any ?_
  refine wpAny_bind (ba_write ha (by simp) fun h1 g1 sb1 => ?_)
  have hTi : ({ s with heap := h1 } : Shared).TypeIs (.int (n : Nat) t) "int" := rfl
  with_reducible refine wpAny_bind ?_
  rw [ba_asStr]
  with_reducible refine wpAny_pure ?_
  with_reducible refine bm_if_false ?_ ?_
  · rfl
  with_reducible refine wpAny_bind (wpAny_of_eq (a := ()) ?_ ?_)
  · rfl
  with_reducible refine wpAny_bind (wpAny_specialOf hTi ba_int_index ?_)
  with_reducible refine bm_if_true ?_ ?_
  · rfl
  with_reducible refine wpAny_bind (wpAny_attempt ?_)
  rw [ba_asIndex]
  with_reducible refine wpAny_pure ?_
  with_reducible refine bm_if_false (ba_fits hn) ?_
  with_reducible refine any_if_neg ?_ ?_
  · omega
  with_reducible refine bm_if_false (ba_not63 hn) ?_
  with_reducible refine bm_if_false (ba_short hn) ?_
  with_reducible refine wpAny_bind (wpAny_rule ?_)
  have e : (Array.replicate (n : Int).toNat (0 : UInt8)) = Array.replicate n 0 := by simp
  by_cases hn0 : 0 < n
  · with_reducible refine any_if_pos ?_ ?_
    · omega
    refine wpAny_bind (ba_write g1 (by rw [e]; simp; omega) fun h2 g2 sb2 => ?_)
    refine wpAny_pure ?_
    rw [e] at g2
    exact h _ g2 fun b o hb eo => sb2.extBut b o hb (sb1.extBut b o hb eo)
  · obtain rfl : n = 0 := by omega
    with_reducible refine any_if_neg ?_ ?_
    · omega
    refine wpAny_pure ?_
    exact h _ g1 fun b o hb eo => sb1.extBut b o hb eo
theorem ba_good {args : Args} : goodC (.builtin "type.__call__" args) = true := by
  show (!harmful.contains "type.__call__") = true
  decide +kernel
theorem ba_good2 {args : Args} : goodC (.builtin "bytearray.__init__" args) = true := by
  show (!harmful.contains "bytearray.__init__") = true
  decide +kernel
theorem den_builtin {id : String} {args : Args} {b : Builtin} (h : entryFor table id = some b) : (model prog w).den (.builtin id args) = b args := by
  show (match entryFor table id with | some b => b args | none => unsupported ((withoutEnding? id "#data").getD id)) = _
  rw [h]
theorem ba_call {n : Nat} {t : Tok} {Q : Value → Shared → Prop} (hn : n ≤ 1000)
    (h : ∀ h', h'.get? s.heap.objs.size = some (baObj (Array.replicate n 0)) → (∀ b o, s.heap.get? b = some o → h'.get? b = some o) → Q (.ref s.heap.objs.size) { s with heap := h' }) :
    wpR (model prog w) A (call (.type "bytearray") [.int (n : Nat) t] []) Q s := by
  obtain ⟨c, tl, hmro⟩ := ba_called.mro
  refine wpR_call (codeR_tree rfl ?_)
  show wpR _ _ (callAny (.type "bytearray") _) _ _
  refine wpR_pure ⟨Code.quiet_builtin _ (by decide +kernel), codeR_tree ba_good ?_⟩
  rw [Around.under_plain (weight_type_call_type "bytearray" _ []) rfl]
  rw [den_builtin PySem.F.entry_type_call]
  unfold Builtin.«type.__call__»
  dsimp -zeta only
  with_reducible refine wpR_ite_f ba_called.notType ?_
  with_reducible refine wpR_ite_f ba_called.canCreate ?_
  with_reducible refine wpR_bind (wpR_eq (ba_typeCall _) ?_)
  with_reducible refine wpR_bind (wpR_eq hmro ?_)
  with_reducible refine wpR_ite_f ?_ ?_
  · rfl
  with_reducible refine wpR_bind (wpR_eq ba_called.made ?_)
  with_reducible refine wpR_bind (wpR_pure ?_)
  refine wpR_bind (wpR_holding (wpR_any (wpAny_call (codeAny_mono (ba_new (E := fun _ _ => False) (Q₁ := fun v s' => v = .ref s.heap.objs.size ∧ s' = { s with heap := s.heap.push (baObj #[]) }) _ ⟨rfl, rfl⟩) fun r s' hr => ?_))))
  have ha : (s.heap.push (baObj #[])).get? s.heap.objs.size = some (baObj #[]) := Heap.get?_push_size _ rfl
  have hT : ({ s with heap := s.heap.push (baObj #[]) } : Shared).TypeIs (.ref s.heap.objs.size) "bytearray" := ⟨_, ha, rfl⟩
  cases r with
  | error e => exact hr.elim
  | ok fl =>
  cases fl with
  | ret v =>
    obtain ⟨rfl, rfl⟩ := hr
    with_reducible refine wpR_bind (wpR_any (wpAny_isInstance hT ba_sub ?_))
    with_reducible refine wpR_ite_f ?_ ?_
    · rfl
    refine wpR_bind (wpR_holding ?_)
    simp only [callSpecial?]
    refine wpR_bind (wpR_any (wpAny_specialOf hT ba_slot_init.lookup ?_))
    dsimp only
    refine wpR_holding ?_
    rw [ba_slot_init.bind]
    refine wpR_bind (wpR_pure ?_)
    refine wpR_bind (wpR_call (codeR_tree rfl ?_))
    show wpR _ A.in1.in1 (do checkBuiltinCall "bytearray.__init__" ⟨[.ref s.heap.objs.size, .int (n : Nat) t], []⟩; again (.builtin "bytearray.__init__" ⟨[.ref s.heap.objs.size, .int (n : Nat) t], []⟩)) _ _
    refine wpR_bind (wpR_any (ba_slot_init.check _ _ _ _ _ _ _ _ hT (ba_args _ _) ?_))
    refine wpR_pure ⟨plainId_quiet ba_slot_init.plain _, codeR_tree ba_good2 ?_⟩
    rw [den_builtin ba_entry_init]
    refine ba_init ha hn fun h' g' k' => ⟨_, rfl, ?_⟩
    refine wpR_pure ?_
    dsimp only
    with_reducible refine wpR_ite_f ?_ ?_
    · rfl
    refine wpR_pure ⟨_, rfl, h h' g' fun b o e => ?_⟩
    exact k' b o (Nat.ne_of_lt (Heap.lt_size e)) (Heap.get?_push_of_some _ e)
  | _ => exact hr.elim
end
theorem anew_R2 : True := by
  w_top off
  exact True.intro
section
variable {M : Model} {A : Around} {s : Shared} {env : Env}
theorem CallR1 {id : Str} {p pos : Pos} {e : Expr} {Q : Value → Shared → Prop}
    (h : wpAny M A (eval (.Name id p) env) (fun f s₁ => wpR M A (callWith pos f [] [(false, eval e env)] []) Q s₁) (fun _ _ => False) s)
    (ht : backTo pos (starEach [e] env) = [(false, eval e env)] := by rfl) : wpR M A (eval (.Call (.Name id p) [e] [] pos) env) Q s := CallR ht h
theorem CallR2 {id : Str} {p pos : Pos} {e f : Expr} {Q : Value → Shared → Prop}
    (h : wpAny M A (eval (.Name id p) env) (fun v s₁ => wpR M A (callWith pos v [] [(false, eval e env), (false, eval f env)] []) Q s₁) (fun _ _ => False) s)
    (ht : backTo pos (starEach [e, f] env) = [(false, eval e env), (false, eval f env)] := by rfl) : wpR M A (eval (.Call (.Name id p) [e, f] [] pos) env) Q s := CallR ht h
theorem callType1 {pos : Pos} {T : String} {x : Sem Value} {Q : Value → Shared → Prop}
    (h : wpAny M A x (fun v s₁ => wpR M A (call (.type T) [v] []) Q s₁) (fun _ _ => False) s) : wpR M A (callWith pos (.type T) [] [(false, x)] []) Q s :=
  callWithR_type rfl (splicedR_cons (wpR_any (wpAny_mono h (fun _ _ q => splicedR_nil q) fun _ _ q => q)))
theorem callDef1 {pos : Pos} {a : Addr} {x : Sem Value} {Q : Value → Shared → Prop}
    (h : wpR M A x (fun v s₁ => (∃ o fd, s₁.heap.get? a = some o ∧ o.data = .func fd) ∧ wpR M A (call (.ref a) [v] []) Q s₁) s) : wpR M A (callWith pos (.ref a) [] [(false, x)] []) Q s :=
  callWithR_def rfl (splicedR_cons (wpR_mono h (fun _ _ q => splicedR_nil q)))
theorem callDef2 {pos : Pos} {a : Addr} {x y : Sem Value} {Q : Value → Shared → Prop}
    (h : wpR M A x (fun v s₁ => wpR M A y (fun u s₂ => (∃ o fd, s₂.heap.get? a = some o ∧ o.data = .func fd) ∧ wpR M A (call (.ref a) [v, u] []) Q s₂) s₁) s) : wpR M A (callWith pos (.ref a) [] [(false, x), (false, y)] []) Q s :=
  callWithR_def rfl (splicedR_cons (wpR_mono h (fun _ _ q => splicedR_cons (wpR_mono q (fun _ _ q => splicedR_nil q)))))
end
section
variable {prog : Program} {w : World} {A : Around} {E : Value → Shared → Prop} {s : Shared} {h₀ : Heap} {L : Addr} {m : Str → Option Value} {news : List (Addr × Obj)}
theorem ba_callK {n : Nat} {t : Tok} {Q : Value → Shared → Prop} (F : Fr h₀ L s.heap m) (N : News h₀ L s.heap news) (hn : n ≤ 1000)
    (h : ∀ a h', Fr h₀ L h' m → News h₀ L h' ((a, baObj (Array.replicate n 0)) :: news) → (∀ p ∈ news, p.1 < a) → Q (.ref a) { s with heap := h' }) : wpR (model prog w) A (call (.type "bytearray") [.int (n : Nat) t] []) Q s := by
  refine ba_call hn fun h' g k => ?_
  obtain ⟨F', N', l'⟩ := ks_newsPush F N rfl g k
  exact h _ _ F' N' l'
end
theorem anew_Bb : True := by
  w_top off
  exact True.intro
theorem bb_slot_setitem : Slot "bytearray" "__setitem__" "bytearray.__setitem__" :=
  .of (owner := "bytearray") (n := "__setitem__") (by rw [typeLookup_type, builtinLookup_eq_fast]; kernel_rfl) (by decide +kernel) (by decide +kernel) (by decide +kernel)
    (by first | exact .inl (by decide +kernel) | exact .inr (by decide +kernel)) (by rw [isSubtype_type]; kernel_rfl)
theorem bb_entry_setitem : entryFor table "bytearray.__setitem__" = some Builtin.«bytearray.__setitem__» := by first | exact entryFor_of_fast (by kernel_rfl) | exact entryFor_of_tree (by kernel_rfl)
theorem bb_args_setitem (a b c : Value) : argsOk "bytearray.__setitem__" ⟨[a, b, c], []⟩ := by first | rfl | kernel_rfl
theorem bb_no_bytes : typeLookup (.type "bytearray") "__bytes__" = pure none := by rw [typeLookup_type, builtinLookup_eq_fast]; kernel_rfl
theorem bb_no_index : typeLookup (.type "bytearray") "__index__" = pure none := by rw [typeLookup_type, builtinLookup_eq_fast]; kernel_rfl
theorem bb_buffer : typeLookup (.type "bytearray") "__buffer__" = pure (some (.builtin "bytearray.__buffer__")) := by rw [typeLookup_type, builtinLookup_eq_fast]; kernel_rfl
theorem bb_ends : (!("bytearray.__buffer__" : String).endsWith ("." ++ "__buffer__")) = false := by decide +kernel
theorem bb_drop : (("bytearray.__buffer__" : String).dropRight (("__buffer__" : String).length + 1)) = "bytearray" := by decide +kernel
section
variable {prog : Program} {w : World} {A : Around} {E : Value → Shared → Prop} {s : Shared}
theorem bb_fits {k : Int} (h0 : 0 ≤ k) (h1 : k ≤ 1000) : (!Builtin.Bytes.fitsIndex k) = false := by
  obtain ⟨n, rfl⟩ := Int.eq_ofNat_of_zero_le h0
  exact ba_fits (by omega)
theorem bb_subscript {M : Model} {k : Int} {t : Tok} {Q : Option Int → Shared → Prop} (h0 : 0 ≤ k) (h1 : k ≤ 1000) (h : Q (some k) s) : wpAny M A (Builtin.Bytes.subscript? (.int k t)) Q E s := by
  unfold Builtin.Bytes.subscript?
  have hTi : s.TypeIs (.int k t) "int" := rfl
  refine wpAny_bind (wpAny_specialOf hTi ba_int_index ?_)
  with_reducible refine bm_if_false ?_ ?_
  · rfl
  have e : asIndex (.int k t) = pure k := rfl
  refine wpAny_bind ?_
  rw [e]
  with_reducible refine wpAny_pure ?_
  with_reducible refine bm_if_false (bb_fits h0 h1) ?_
  exact wpAny_pure h
theorem bb_byteValue {M : Model} {c : UInt8} {t : Tok} {Q : UInt8 → Shared → Prop} (h : Q c s) : wpAny M A (Builtin.Bytes.byteValue (.int (c.toNat : Int) t)) Q E s := by
  unfold Builtin.Bytes.byteValue
  have e : asIndex (.int (c.toNat : Int) t) = pure (c.toNat : Int) := rfl
  refine wpAny_bind ?_
  rw [e]
  with_reducible refine wpAny_pure ?_
  have hc := UInt8.toNat_lt c
  with_reducible refine bm_if_false ?_ ?_
  · rw [Bool.or_eq_false_iff]; exact ⟨decide_eq_false (by omega), decide_eq_false (by omega)⟩
  refine wpAny_pure ?_
  rw [Int.toNat_natCast]
  simpa using h
theorem bb_setItem {a : Addr} {b : Array UInt8} {k : Int} {t u : Tok} {c : UInt8} {Q : Unit → Shared → Prop} (ha : s.heap.get? a = some (baObj b)) (h0 : 0 ≤ k) (h1 : k < b.size) (hb : b.size ≤ 1000)
    (hQ : ∀ h', h'.get? a = some (baObj (b.setIfInBounds k.toNat c)) → Heap.SameBut a s.heap h' → Q () { s with heap := h' }) : wpAny (model prog w) A (setItem (.ref a) (.int k t) (.int (c.toNat : Int) u)) Q E s := by
  have hT : s.TypeIs (.ref a) "bytearray" := ⟨_, ha, rfl⟩
  unfold setItem
  try with_reducible refine wpAny_holding ?_
  refine wpAny_bind (wpAny_sequenceKey hT (by decide) ?_)
  refine wpAny_bind (wpAny_callSpecial?_slot (name := Str.ofString "__setitem__") hT bb_slot_setitem (wpAny_call_entry bb_slot_setitem hT bb_entry_setitem ?_ (bb_args_setitem _ _ _)))
  unfold Builtin.«bytearray.__setitem__»
  dsimp -zeta only
  with_reducible refine bm_if_false ?_ ?_
  · rfl
  refine wpAny_bind (bb_subscript h0 (by omega) ?_)
  refine wpAny_bind (bb_byteValue ?_)
  refine wpAny_bind (ba_payload ha ?_)
  have hs : seqIndex? k b.size = some k.toNat := by
    have hn : ¬ k < 0 := by omega
    simp [seqIndex?, hn, h0, h1]
  rw [hs]
  dsimp only
  refine wpAny_bind (ba_write ha (by simpa using hb) fun h' g' sb => ?_)
  exact wpAny_pure ⟨.none, rfl, wpAny_pure (hQ h' g' sb)⟩
theorem bb_item {value slice : Expr} {b : Array UInt8} {k : Int} {t u : Tok} {Q : Value → Shared → Prop} (hb : b.size ≤ 1000) (h0 : 0 ≤ k) (h1 : k < b.size) (h : Q (.int ((b[k.toNat]?.getD 0).toNat : Int) s.toks) { s with toks := s.toks + 1 })
    (hs : subscripted slice false (.bytes b t) (.int k u) = operate [.bytes b t, .int k u] (getItem (.bytes b t) (.int k u)) := by with_unfolding_all rfl) : wpAny (model prog w) A (subscriptTail value slice (.bytes b t) (.int k u)) Q E s := by
  obtain ⟨l⟩ := b
  refine tail_any (typeIs_bytes s _ t) FB.slot_bytes_getitem.lookup (getItem_bytes (by simp at hb; omega) h0 (by simpa using h1) ?_) hs
  simpa [List.getD] using h
theorem bb_buffer? {M : Model} {a : Addr} {b : Array UInt8} {id : String} {Q : Option (Array UInt8) → Shared → Prop} (ha : s.heap.get? a = some (baObj b)) (h : Q (some b) s) : wpAny M A (Builtin.Bytes.buffer? id (.ref a) true) Q E s := by
  have hT : s.TypeIs (.ref a) "bytearray" := ⟨_, ha, rfl⟩
  obtain ⟨rid, hr1, hr2, hr3⟩ := ba_release
  have hd := bb_drop
  have hdsub : isSubtype (.type "bytearray") (.type (("bytearray.__buffer__" : String).dropRight (("__buffer__" : String).length + 1))) = pure true := by rw [hd]; exact ba_sub
  unfold Builtin.Bytes.buffer?
  refine wpAny_bind (wpAny_specialOf hT bb_buffer ?_)
  dsimp -zeta only
  refine wpAny_bind ?_
  unfold Builtin.Bytes.slotIsOwn
  refine wpAny_bind (wpAny_specialOf hT bb_buffer ?_)
  dsimp -zeta only
  with_reducible refine bm_if_false bb_ends ?_
  refine wpAny_isInstance hT hdsub ?_
  with_reducible refine bm_if_false ?_ ?_
  · rfl
  refine wpAny_bind (wpAny_specialOf hT bb_buffer ?_)
  show wpAny _ _ (Builtin.Bytes.ownRelease (.ref a) >>= _) _ _ _
  refine wpAny_bind ?_
  unfold Builtin.Bytes.ownRelease Builtin.Bytes.slotIsOwn
  refine wpAny_bind (wpAny_bind (wpAny_specialOf hT hr1 ?_))
  dsimp -zeta only
  refine bm_if_false hr2 ?_
  refine wpAny_isInstance hT hr3 (wpAny_pure ?_)
  with_reducible refine bm_if_false ?_ ?_
  · rfl
  exact wpAny_bind (ba_payload ha (wpAny_pure h))
theorem bb_new {a : Addr} {b : Array UInt8} {Q : Value → Shared → Prop} (ha : s.heap.get? a = some (baObj b)) (hb : b.size ≤ 1000) (hQ : ∀ t k, Q (.bytes b t) { s with toks := k }) :
    codeAny (model prog w) A (.call (.builtin "bytes.__new__") ⟨[.type "bytes", .ref a], []⟩) (wants Q E) s := by
  refine codeAny_of_tree ?_
  show wpAny _ A.in1 (do checkBuiltinCall "bytes.__new__" ⟨[.type "bytes", .ref a], []⟩; again (.builtin "bytes.__new__" ⟨[.type "bytes", .ref a], []⟩)) _ _ s
  refine wpAny_bind (wpAny_of_eq (PySem.F.bm_newCall _) (wpAny_pure ⟨plainId_quiet PySem.F.bm_plain _, codeAny_builtin PySem.F.bm_entry ?_⟩))
  rw [Around.under_plainId PySem.F.bm_plain _]
  have hT : s.TypeIs (.ref a) "bytearray" := ⟨_, ha, rfl⟩
  unfold Builtin.«bytes.__new__»
  refine wpAny_bind (wpAny_of_eq (a := true) rfl ?_)
  refine bm_if_false rfl ?_
  refine wpAny_bind (wpAny_of_eq PySem.F.bm_sub ?_)
  refine bm_if_false rfl ?_
  refine wpAny_bind (wpAny_of_eq (PySem.F.bm_bind _) ?_)
  refine wpAny_bind (wpAny_of_eq (a := ()) rfl ?_)
  refine wpAny_bind (wpAny_of_eq (a := ()) rfl ?_)
  refine bm_if_false rfl ?_
  refine wpAny_bind (wpAny_specialOf hT bb_no_bytes ?_)
  refine wpAny_bind (wpAny_bind ?_)
  show wpAny _ _ (load a >>= _) _ _ _
  refine wpAny_bind (wpAny_load ha ?_)
  refine wpAny_pure (wpAny_pure ?_)
  refine bm_if_false rfl ?_
  refine wpAny_bind (wpAny_specialOf hT bb_no_index ?_)
  refine bm_if_true rfl ?_
  first
    | show wpAny _ _ (Builtin.Bytes.buffer? "bytes.__new__" (.ref a) true >>= _) _ _ _
    | (refine wpAny_bind ?_; show wpAny _ _ (Builtin.Bytes.buffer? "bytes.__new__" (.ref a) true >>= _) _ _ _)
  refine wpAny_bind (bb_buffer? ha ?_)
  refine wpAny_bind (wpAny_rule ?_)
  refine wpAny_bind (wpAny_mkBytes ?_ (by have : (1000 : Nat) ≤ sizeLine := (by decide +kernel); omega))
  show wpAny _ _ (if (Value.type "bytes" == Value.type "bytes") = true then _ else _) _ _ _
  refine bm_if_true (by decide) ?_
  first
    | exact wpAny_pure (hQ _ _)
    | exact wpAny_bind (wpAny_pure (wpAny_pure (hQ _ _)))
theorem bb_bytes {a : Addr} {b : Array UInt8} {Q : Value → Shared → Prop} (ha : s.heap.get? a = some (baObj b)) (hb : b.size ≤ 1000) (hQ : ∀ t k, Q (.bytes b t) { s with toks := k }) : wpAny (model prog w) A (call (.type "bytes") [.ref a]) Q E s := by
  refine callType_codes (Q₁ := fun obj s₁ => s₁.TypeIs obj "bytes" ∧ Q obj s₁) PySem.F.bm_called (PySem.F.bm_typeCall _) PySem.F.entry_object_init
    (bb_new ha hb fun t k => ⟨PySem.W.typeIs_bytes _ _ _, hQ t k⟩) fun obj s₁ h₁ => ?_
  exact ⟨h₁.1, PySem.F.args_object_init_2 obj _, object_init_meets PySem.F.bm_called.init.lookup PySem.F.bm_called.made (by decide) prog w A.in1 _ s₁ ⟨h₁.1, rfl, h₁.2⟩⟩
end
section
variable {prog : Program} {w : World} {A : Around} {E : Value → Shared → Prop} {s : Shared} {h₀ : Heap} {L : Addr} {m : Str → Option Value} {news : List (Addr × Obj)}
theorem bb_setItemK {a : Addr} {b : Array UInt8} {k : Int} {t u : Tok} {c : UInt8} {Q : Unit → Shared → Prop} (F : Fr h₀ L s.heap m) (N : News h₀ L s.heap ((a, baObj b) :: news)) (ho : ∀ p ∈ news, p.1 ≠ a) (h0 : 0 ≤ k) (h1 : k < b.size) (hb : b.size ≤ 1000)
    (hQ : ∀ h', Fr h₀ L h' m → News h₀ L h' ((a, baObj (b.setIfInBounds k.toNat c)) :: news) → Q () { s with heap := h' }) : wpAny (model prog w) A (setItem (.ref a) (.int k t) (.int (c.toNat : Int) u)) Q E s := by
  refine bb_setItem (N _ (.head _)).1 h0 h1 hb fun h' g sb => ?_
  have hL : a ≠ L := (N _ (.head _)).2.1
  have hn : h₀.get? a = none := (N _ (.head _)).2.2
  refine hQ h' ⟨F.ns.at' fun o e => (sb.2 L (Ne.symm hL)).trans e, fun b' o e => (sb.2 b' fun q => by rw [q, hn] at e; cases e).trans (F.keep b' o e), F.above⟩ fun p hp => ?_
  rcases List.mem_cons.mp hp with rfl | hp
  · exact ⟨g, hL, hn⟩
  · exact ⟨(sb.2 p.1 (ho p hp)).trans (N p (.tail _ hp)).1, (N p (.tail _ hp)).2⟩
end
theorem anew_By : True := by
  w_top off
  exact True.intro
/-- Where an octet of a word goes. -/
def bsrc (wd q : Nat) : Nat := q / wd * wd + (wd - 1 - q % wd)
def ByJ (b : Array UInt8) (tb tw : Tok) (wd : Nat) (S : Addr) (rest : List (Addr × Obj)) (i : Nat) (m : Str → Option Value) (news : List (Addr × Obj)) : Prop :=
  ∃ B, m "data" = some (.bytes b tb) ∧ m "width" = some (.int (wd : Nat) tw) ∧ m "swapped_data" = some (.ref S) ∧ news = (S, baObj B) :: rest ∧ B.size = b.size ∧ ∀ q < i * wd, B[q]? = b[bsrc wd q]?
def ByK (b : Array UInt8) (tb tw : Tok) (wd : Nat) (S : Addr) (rest : List (Addr × Obj)) (pre : List (Addr × Obj)) (i j : Nat) (m : Str → Option Value) (news : List (Addr × Obj)) : Prop :=
  ∃ B ti, m "data" = some (.bytes b tb) ∧ m "width" = some (.int (wd : Nat) tw) ∧ m "swapped_data" = some (.ref S) ∧ m "i" = some (.int (i * wd : Nat) ti) ∧ news = (S, baObj B) :: pre ++ rest ∧ B.size = b.size ∧ (∀ q < i * wd, B[q]? = b[bsrc wd q]?) ∧
    ∀ k < j, B[i * wd + (wd - 1 - k)]? = b[i * wd + k]?
theorem byteswap_does (w : World) (p : Program) (loose : List Str) (mean : PySem.ExcName → Option Value) (mg mb : Str → Option Value) (b : Array UInt8) (tb tw : Tok) (wd m' : Nat) (rest : List (Addr × Obj)) 
    (hw : 0 < wd) (hw2 : wd ≤ 1000) (hlen : b.size = m' * wd) (hb : b.size ≤ 1000) :
    DoesR w p loose mean mg mb 143 7 96 [.bytes b tb, .int (wd : Nat) tw] [] rest (fun r news' => ∃ t B, r = .bytes B t ∧ news' = rest ∧ B.size = b.size ∧ ∀ q < b.size, B[q]? = b[bsrc wd q]?) := by
  unfold DoesR
  k_fill
  intro dp un gd cn cs a ccd cl outer A₀ base h₀ L m s Q B F X T hk hd hu N hret
  refine wpR_call ?_
  (k_dflt (refine' code_defR ?k1 ?k2 ?k3 ?k4 ?k5 ?kA ?kF ?kK ?k6 ?k7 ?k8 ?k9 ?kB ?_ ?c2 ?c3 ?c4 ?c5; (case kA => exact rfl); (case kF => exact rfl); (case kK => assumption); (case k1 => k_asm); (case k2 => k_asm); (case k3 => k_asm); (case k4 => k_asm); (case k5 => k_asm); (case k6 => k_is); (case k7 => k_is); (case k8 => ktr_room); (case k9 => first | exact BindsTo.of_eq rfl | exact binds_K (by k_in) rfl (by k_is) rfl rfl rfl | (refine' kp_binds ?kx ?ke; (case kx => k_in); (case ke => exact fun _ => rfl))); (case c5 => decide); (case kB => exact locs rfl); (case c2 => exact rfl); (case c3 => exact rfl); (case c4 => exact rfl); intro _ _ _ _ _ _ _ _ _; (try dsimp only); (try k_fold)))
  refine execsR (AssignR (CallR1 ?_))
  (repeat' (first | (k_unfold; (try dsimp only)) | ((((fail_if_success (with_reducible show wpAny _ _ (exec (Stmt.While _ _ _ _) _) _ _ _)); (fail_if_success (with_reducible show wpAny _ _ (exec (Stmt.For _ _ _ _ _) _) _ _ _)); (fail_if_success (with_reducible show wpAny _ _ (pyIter _) _ _ _)))); walk1) | ((((fail_if_success (with_reducible show wpAny _ _ (exec (Stmt.While _ _ _ _) _) _ _ _)); (fail_if_success (with_reducible show wpAny _ _ (exec (Stmt.For _ _ _ _ _) _) _ _ _)); (fail_if_success (with_reducible show wpAny _ _ (pyIter _) _ _ _)))); dsimp only; walk1) | fail "no step"))
  refine callType1 ?_
  (repeat' (first | (k_unfold; (try dsimp only)) | ((((fail_if_success (with_reducible show wpAny _ _ (exec (Stmt.While _ _ _ _) _) _ _ _)); (fail_if_success (with_reducible show wpAny _ _ (exec (Stmt.For _ _ _ _ _) _) _ _ _)); (fail_if_success (with_reducible show wpAny _ _ (pyIter _) _ _ _)))); walk1) | ((((fail_if_success (with_reducible show wpAny _ _ (exec (Stmt.While _ _ _ _) _) _ _ _)); (fail_if_success (with_reducible show wpAny _ _ (exec (Stmt.For _ _ _ _ _) _) _ _ _)); (fail_if_success (with_reducible show wpAny _ _ (pyIter _) _ _ _)))); dsimp only; walk1) | fail "no step"))
  refine ba_callK (by k_asm) (by k_asm) hb fun a0 h1 F1 N1 l1 => ?_
  (repeat' (first | (k_unfold; (try dsimp only)) | ((((fail_if_success (with_reducible show wpAny _ _ (exec (Stmt.While _ _ _ _) _) _ _ _)); (fail_if_success (with_reducible show wpAny _ _ (exec (Stmt.For _ _ _ _ _) _) _ _ _)); (fail_if_success (with_reducible show wpAny _ _ (pyIter _) _ _ _)))); walk1) | ((((fail_if_success (with_reducible show wpAny _ _ (exec (Stmt.While _ _ _ _) _) _ _ _)); (fail_if_success (with_reducible show wpAny _ _ (exec (Stmt.For _ _ _ _ _) _) _ _ _)); (fail_if_success (with_reducible show wpAny _ _ (pyIter _) _ _ _)))); dsimp only; walk1) | fail "no step"))
  refine wpR_any ?_
  (repeat' (first | (k_unfold; (try dsimp only)) | ((((fail_if_success (with_reducible show wpAny _ _ (exec (Stmt.While _ _ _ _) _) _ _ _)); (fail_if_success (with_reducible show wpAny _ _ (exec (Stmt.For _ _ _ _ _) _) _ _ _)); (fail_if_success (with_reducible show wpAny _ _ (pyIter _) _ _ _)))); walk1) | ((((fail_if_success (with_reducible show wpAny _ _ (exec (Stmt.While _ _ _ _) _) _ _ _)); (fail_if_success (with_reducible show wpAny _ _ (exec (Stmt.For _ _ _ _ _) _) _ _ _)); (fail_if_success (with_reducible show wpAny _ _ (pyIter _) _ _ _)))); dsimp only; walk1) | fail "no step"))
  refine For_invVF (by k_asm) rfl rfl ?_
  (repeat' (first | (k_unfold; (try dsimp only)) | ((((fail_if_success (with_reducible show wpAny _ _ (exec (Stmt.While _ _ _ _) _) _ _ _)); (fail_if_success (with_reducible show wpAny _ _ (exec (Stmt.For _ _ _ _ _) _) _ _ _)); (fail_if_success (with_reducible show wpAny _ _ (pyIter _) _ _ _)))); walk1) | ((((fail_if_success (with_reducible show wpAny _ _ (exec (Stmt.While _ _ _ _) _) _ _ _)); (fail_if_success (with_reducible show wpAny _ _ (exec (Stmt.For _ _ _ _ _) _) _ _ _)); (fail_if_success (with_reducible show wpAny _ _ (pyIter _) _ _ _)))); dsimp only; walk1) | fail "no step"))
  rename_i hr' F' N' hk'
  rw [hlen] at hr'
  refine loop_range (n := m') (ByJ b tb tw wd a0 rest) rfl hr' (range_small_step _ _ hw (by omega) (by omega)) (range_size_step _ _ hw) (by k_asm) (by k_asm) ⟨_, by walk_at "m_look", by walk_at "m_look", by walk_at "m_look", rfl, by simp, by intro q hq; omega⟩ ?_ ?_
  · rintro i tt m₁ news₁ h₁ tk₁ I oI hi ⟨Ba, hdt, hwt, hst, rfl, hBs, hB⟩ hoI F₁ N₁
    have ei : (0 : Int) + (i : Int) * (wd : Nat) = ((i * wd : Nat) : Int) := by simp
    rw [ei] at F₁
    (repeat' (first | (k_unfold; (try dsimp only)) | ((((fail_if_success (with_reducible show wpAny _ _ (exec (Stmt.While _ _ _ _) _) _ _ _)); (fail_if_success (with_reducible show wpAny _ _ (exec (Stmt.For _ _ _ _ _) _) _ _ _)); (fail_if_success (with_reducible show wpAny _ _ (pyIter _) _ _ _)))); walk1) | ((((fail_if_success (with_reducible show wpAny _ _ (exec (Stmt.While _ _ _ _) _) _ _ _)); (fail_if_success (with_reducible show wpAny _ _ (exec (Stmt.For _ _ _ _ _) _) _ _ _)); (fail_if_success (with_reducible show wpAny _ _ (pyIter _) _ _ _)))); dsimp only; walk1) | fail "no step"))
    refine For_invVF (by k_asm) rfl rfl ?_
    (repeat' (first | (k_unfold; (try dsimp only)) | ((((fail_if_success (with_reducible show wpAny _ _ (exec (Stmt.While _ _ _ _) _) _ _ _)); (fail_if_success (with_reducible show wpAny _ _ (exec (Stmt.For _ _ _ _ _) _) _ _ _)); (fail_if_success (with_reducible show wpAny _ _ (pyIter _) _ _ _)))); walk1) | ((((fail_if_success (with_reducible show wpAny _ _ (exec (Stmt.While _ _ _ _) _) _ _ _)); (fail_if_success (with_reducible show wpAny _ _ (exec (Stmt.For _ _ _ _ _) _) _ _ _)); (fail_if_success (with_reducible show wpAny _ _ (pyIter _) _ _ _)))); dsimp only; walk1) | fail "no step"))
    rename_i hr2 F2 N2 hk2
    refine loop_range (n := wd) (ByK b tb tw wd a0 rest [(I, oI)] i) rfl hr2 (range_small _ (by omega)) (range_size _) (by k_asm) (News.swap (by k_asm)) ⟨_, _, by walk_at "m_look", by walk_at "m_look", by walk_at "m_look", by walk_at "m_look", rfl, hBs, hB, by intro k hk; omega⟩ ?_ ?_
    · rintro k tt2 m₂ news₂ h₂ tk₂ I2 oI2 hki ⟨Bb, ti2, hdt2, hwt2, hst2, hi2, rfl, hBs2, hB2, hB3⟩ hoI2 F₂ N₂
      have ek : (0 : Int) + (k : Int) * 1 = (k : Int) := by omega
      rw [ek] at F₂
      (repeat' (first | (k_unfold; (try dsimp only)) | ((((fail_if_success (with_reducible show wpAny _ _ (exec (Stmt.While _ _ _ _) _) _ _ _)); (fail_if_success (with_reducible show wpAny _ _ (exec (Stmt.For _ _ _ _ _) _) _ _ _)); (fail_if_success (with_reducible show wpAny _ _ (pyIter _) _ _ _)))); walk1) | ((((fail_if_success (with_reducible show wpAny _ _ (exec (Stmt.While _ _ _ _) _) _ _ _)); (fail_if_success (with_reducible show wpAny _ _ (exec (Stmt.For _ _ _ _ _) _) _ _ _)); (fail_if_success (with_reducible show wpAny _ _ (pyIter _) _ _ _)))); dsimp only; walk1) | fail "no step"))
      have hik : i * wd + k < b.size := by
        rw [hlen]
        have : (i + 1) * wd ≤ m' * wd := Nat.mul_le_mul_right _ hi
        rw [Nat.add_mul] at this
        omega
      generalize hX : i * wd = iw at hik hi2 hB2 hB3 ⊢
      have e1 : (iw : Int) + (k : Int) = ((iw + k : Nat) : Int) := by omega
      rw [e1]
      refine bb_item hb (by omega) (by omega) ?_
      (repeat' (first | (k_unfold; (try dsimp only)) | ((((fail_if_success (with_reducible show wpAny _ _ (exec (Stmt.While _ _ _ _) _) _ _ _)); (fail_if_success (with_reducible show wpAny _ _ (exec (Stmt.For _ _ _ _ _) _) _ _ _)); (fail_if_success (with_reducible show wpAny _ _ (pyIter _) _ _ _)))); walk1) | ((((fail_if_success (with_reducible show wpAny _ _ (exec (Stmt.While _ _ _ _) _) _ _ _)); (fail_if_success (with_reducible show wpAny _ _ (exec (Stmt.For _ _ _ _ _) _) _ _ _)); (fail_if_success (with_reducible show wpAny _ _ (pyIter _) _ _ _)))); dsimp only; walk1) | fail "no step"))
      have hwk : iw + (wd - 1 - k) < Bb.size := by
        rw [hBs2, hlen, ← hX]
        have : (i + 1) * wd ≤ m' * wd := Nat.mul_le_mul_right _ hi
        rw [Nat.add_mul] at this
        omega
      have hSI2 : a0 ≠ I2 := hoI2 _ (.head _)
      have hSI : a0 ≠ I := hoI _ (.head _)
      have hoff : ∀ p ∈ (I2, oI2) :: (I, oI) :: rest, p.1 ≠ a0 := off_cons hSI2.symm (off_cons hSI.symm fun p hp => Nat.ne_of_lt (l1 p hp))
      have N₃ := News.swap N₂
      refine bb_setItemK (by k_asm) N₃ hoff (by omega) (by omega) (by omega) fun h' F' N' => ?_
      have e2 : ((iw + k : Nat) : Int).toNat = iw + k := by omega
      have e3 : ((iw : Int) + (wd : Int) - 1 - (k : Int)).toNat = iw + (wd - 1 - k) := by omega
      rw [e2, e3] at N'
      obtain ⟨c, hc⟩ : ∃ c, b[iw + k]? = some c := ⟨_, Array.getElem?_eq_getElem hik⟩
      rw [hc, Option.getD_some] at N'
      have hoff2 : ∀ p ∈ (a0, baObj (Bb.setIfInBounds (iw + (wd - 1 - k)) c)) :: ([(I, oI)] ++ rest), p.1 ≠ I2 := off_cons hSI2 (fun p hp => hoI2 p (.tail _ hp))
      dsimp only
      (repeat' (first | (k_unfold; (try dsimp only)) | ((((fail_if_success (with_reducible show wpAny _ _ (exec (Stmt.While _ _ _ _) _) _ _ _)); (fail_if_success (with_reducible show wpAny _ _ (exec (Stmt.For _ _ _ _ _) _) _ _ _)); (fail_if_success (with_reducible show wpAny _ _ (pyIter _) _ _ _)))); walk1) | ((((fail_if_success (with_reducible show wpAny _ _ (exec (Stmt.While _ _ _ _) _) _ _ _)); (fail_if_success (with_reducible show wpAny _ _ (exec (Stmt.For _ _ _ _ _) _) _ _ _)); (fail_if_success (with_reducible show wpAny _ _ (pyIter _) _ _ _)))); dsimp only; walk1) | fail "no step"))
      refine TurnEnd.next F' (News.swap N') hoff2 ?_
      refine ⟨_, _, by walk_at "m_look", by walk_at "m_look", by walk_at "m_look", by rw [hX]; walk_at "m_look", rfl, by rw [Array.size_setIfInBounds]; exact hBs2, fun q hq => ?_, fun q hq => ?_⟩
      · rw [hX] at hq
        rw [Array.getElem?_setIfInBounds_ne (by omega)]
        exact hB2 q hq
      · rw [hX]
        by_cases hqk : q = k
        · subst hqk
          rw [Array.getElem?_setIfInBounds_self_of_lt hwk, hc]
        · rw [Array.getElem?_setIfInBounds_ne (by omega)]
          exact hB3 q (by omega)
    · rintro m₂ news₂ h₂ tk₂ ⟨Bb, ti2, hdt2, hwt2, hst2, hi2, rfl, hBs2, hB2, hB3⟩ F₂ N₂
      (repeat' (first | (k_unfold; (try dsimp only)) | ((((fail_if_success (with_reducible show wpAny _ _ (exec (Stmt.While _ _ _ _) _) _ _ _)); (fail_if_success (with_reducible show wpAny _ _ (exec (Stmt.For _ _ _ _ _) _) _ _ _)); (fail_if_success (with_reducible show wpAny _ _ (pyIter _) _ _ _)))); walk1) | ((((fail_if_success (with_reducible show wpAny _ _ (exec (Stmt.While _ _ _ _) _) _ _ _)); (fail_if_success (with_reducible show wpAny _ _ (exec (Stmt.For _ _ _ _ _) _) _ _ _)); (fail_if_success (with_reducible show wpAny _ _ (pyIter _) _ _ _)))); dsimp only; walk1) | fail "no step"))
      have hoff3 : ∀ p ∈ (a0, baObj Bb) :: rest, p.1 ≠ I := off_cons (hoI _ (.head _)) fun p hp => hoI p (.tail _ hp)
      refine TurnEnd.next (by k_asm) (News.swap N₂) hoff3 ⟨_, by walk_at "m_look", by walk_at "m_look", by walk_at "m_look", rfl, hBs2, fun q hq => ?_⟩
      by_cases hq1 : q < i * wd
      · exact hB2 q hq1
      · rw [Nat.add_mul, Nat.one_mul] at hq
        have h1 := hB3 (wd - 1 - (q - i * wd)) (by omega)
        have h2 : i * wd + (wd - 1 - (wd - 1 - (q - i * wd))) = q := by omega
        rw [h2] at h1
        rw [h1]
        have hd : q / wd = i := by rw [Nat.div_eq_iff hw]; constructor <;> omega
        have hmo : q % wd = q - i * wd := by
          have := Nat.div_add_mod q wd
          rw [hd, Nat.mul_comm] at this
          omega
        unfold bsrc
        rw [hd, hmo]
  · rintro m₁ news₁ h₁ tk₁ ⟨Ba, hdt, hwt, hst, rfl, hBs, hB⟩ F₁ N₁
    (repeat' (first | (k_unfold; (try dsimp only)) | ((((fail_if_success (with_reducible show wpAny _ _ (exec (Stmt.While _ _ _ _) _) _ _ _)); (fail_if_success (with_reducible show wpAny _ _ (exec (Stmt.For _ _ _ _ _) _) _ _ _)); (fail_if_success (with_reducible show wpAny _ _ (pyIter _) _ _ _)))); walk1) | ((((fail_if_success (with_reducible show wpAny _ _ (exec (Stmt.While _ _ _ _) _) _ _ _)); (fail_if_success (with_reducible show wpAny _ _ (exec (Stmt.For _ _ _ _ _) _) _ _ _)); (fail_if_success (with_reducible show wpAny _ _ (pyIter _) _ _ _)))); dsimp only; walk1) | fail "no step"))
    refine bb_bytes (N₁ _ (.head _)).1 (by omega) fun t k => ?_
    (repeat' (first | (k_unfold; (try dsimp only)) | ((((fail_if_success (with_reducible show wpAny _ _ (exec (Stmt.While _ _ _ _) _) _ _ _)); (fail_if_success (with_reducible show wpAny _ _ (exec (Stmt.For _ _ _ _ _) _) _ _ _)); (fail_if_success (with_reducible show wpAny _ _ (pyIter _) _ _ _)))); walk1) | ((((fail_if_success (with_reducible show wpAny _ _ (exec (Stmt.While _ _ _ _) _) _ _ _)); (fail_if_success (with_reducible show wpAny _ _ (exec (Stmt.For _ _ _ _ _) _) _ _ _)); (fail_if_success (with_reducible show wpAny _ _ (pyIter _) _ _ _)))); dsimp only; walk1) | fail "no step"))
    refine hret _ _ _ _ (by assumption) (News.tail (by assumption)) ⟨_, _, rfl, rfl, hBs, fun q hq => hB q (by omega)⟩
theorem anew_Ac : True := by
  w_top off
  exact True.intro
section
open Builtin Builtin.ObjectAttr Builtin.Getset_descriptor
/-- An object of a class that rests on list. -/
abbrev accObj (C dx : Addr) (vs : List Value) (n : Nat) : Obj := { cls := .ref C, dict := some dx, data := .seq vs.toArray n }
abbrev MK (w : World) : Model := model PySem.Challenge.rw_xp0010_01.row.prog w
structure AccFacts (M : Model) (h : Heap) (C : Addr) : Prop where
  obj : ∃ oc od cd sl, h.get? C = some ⟨oc, od, .cls cd, sl⟩ ∧ cd.hasDel = false ∧ cd.mro.isEmpty = false ∧ Looks M h (mroOf (.ref C)) cd.mro
  made : Looks M h (Bind.madeBy (.ref C)) (some "list.__new__")
  base : Looks M h (Bind.staticBase (.ref C)) (.ref C)
  self : Looks M h (isSubtype (.ref C) (.ref C)) true
  top : Looks M h (isSubtype (.ref C) (.type "list")) true
  call : Looks M h (specialOf (.ref C) "__call__") (some (.builtin "type.__call__"))
  typ : Looks M h (isInstance (.ref C) (.type "type")) true
def accIn (K : Frag) (C : Addr) : Bool := match K.lookup C with
  | some ⟨_, _, .cls cd, sl⟩ => !cd.hasDel && (sl.toList[4]?).join == some (.builtin "list.__new__") && !cd.mro.isEmpty && cd.mro.contains (.ref C) && cd.mro.contains (.type "list") &&
      specialIn K (.ref C) "__call__" == some (some (.builtin "type.__call__")) && instIn K (.ref C) (.type "type") == some true
  | _ => false
theorem acc_facts {K : Frag} {M : Model} {h : Heap} (X : K.In h) {C : Addr} (e : accIn K C = true) : AccFacts M h C := by
  unfold accIn at e
  split at e
  · rename_i oc od cd sl ho
    simp only [Bool.and_eq_true, Bool.not_eq_true', beq_iff_eq] at e
    obtain ⟨⟨⟨⟨⟨⟨e2, e3⟩, e4⟩, e5⟩, e6⟩, e7⟩, e8⟩ := e
    have hc : clsIn K C = some cd := by unfold clsIn; rw [ho]
    have hm : Looks M h (mroOf (.ref C)) cd.mro := (looks_clsIn X hc).andThen .now
    obtain ⟨c, l, hl⟩ : ∃ c l, cd.mro = c :: l := by cases q : cd.mro with | nil => rw [q] at e4; cases e4 | cons c l => exact ⟨c, l, rfl⟩
    have made : Looks M h (Bind.madeBy (.ref C)) (some "list.__new__") := by
      intro A Q E s k q
      unfold Bind.madeBy
      refine wpAny_bind (hm A _ E s k ?_)
      rw [hl, List.forIn_cons]
      refine wpAny_bind (wpAny_bind (wpAny_bind (wpAny_bind (wpAny_loadPart (k _ _ (X _ _ ho)) (wpAny_pure ?_)))))
      dsimp only
      rw [← Array.getElem?_toList, e3]
      exact wpAny_pure (wpAny_pure (wpAny_pure q))
    refine ⟨⟨oc, od, cd, sl, X _ _ ho, e2, e4, hm⟩, made, ?_, looks_mroIn X ?_, looks_mroIn X ?_, looks_specialIn X e7, looks_instIn X e8⟩
    · intro A Q E s k q
      unfold Bind.staticBase
      refine wpAny_bind (hm A _ E s k ?_)
      rw [hl, List.forIn_cons]
      exact wpAny_bind (wpAny_bind (wpAny_bind (made A _ E s k (wpAny_pure (wpAny_pure (wpAny_pure q))))))
    · unfold mroIn; rw [hc, Option.bind_some, if_neg (by rw [e4]; decide), e5]
    · unfold mroIn; rw [hc, Option.bind_some, if_neg (by rw [e4]; decide), e6]
  · cases e
theorem ln_split : splitId "list.__new__" = some ("list", "__new__") := by decide +kernel
theorem ln_kind : builtinKind "list.__new__" = some .builtinFn := by decide +kernel
section
variable {prog : Program} {w : World} {A : Around} {K : Frag} {C : Addr} {R : Result → Shared → Prop} {h : Heap} {g : Array GenState} {d : Drawn} {t : Nat} {os : OsState}
theorem acc_new (Y : AccFacts (model prog w) h C) (hq : R (.ok (.ret (.ref (h.objs.size + 1)))) ⟨(h.push emptyDict).push (accObj C h.objs.size [] 0), g, d, t, os⟩) :
    codeAny (model prog w) A (.call (.builtin "list.__new__") ⟨[.ref C], []⟩) R ⟨h, g, d, t, os⟩ := by
  obtain ⟨⟨oc, od, cd, sl, hC, e2, e4, hm⟩, made, base, self, top, call, typ⟩ := Y
  refine codeAny_of_tree ?_
  show wpAny _ A.in1 (do checkBuiltinCall "list.__new__" ⟨[.ref C], []⟩; again (.builtin "list.__new__" ⟨[.ref C], []⟩)) _ _ _
  refine wpAny_bind ?_
  simp only [checkBuiltinCall, ln_split, ln_kind]
  repeat (first | simp only [beq_self_eq_true, if_true, bne_self_eq_false, Bool.false_eq_true, if_false, Bool.not_true] | lk)
  refine ⟨plainId_quiet PySem.F.plain_list_new _, codeAny_builtin_stack PySem.F.entry_list_new rfl fun p st => ?_⟩
  rw [Around.under_plainId PySem.F.plain_list_new _]
  have hown := owner_list_new
  simp only [hown]
  repeat (first | simp only [beq_self_eq_true, if_true, bne_self_eq_false, Bool.false_eq_true, if_false, Bool.not_true] | lk)
  refine nd_load (Heap.get?_push_of_some _ (Heap.get?_push_of_some _ hC)) ?_
  refine wpAny_pure ?_
  refine wpAny_pure ?_
  rw [e2]
  simp only [Bool.false_eq_true, if_false]
  refine wpAny_pure (wpAny_pure ?_)
  rw [Heap.size_push]
  exact hq
theorem acc_core {init : Value} (Y : AccFacts (model prog w) h C) (hi : Looks (model prog w) h (typeLookup (.ref C) "__init__") (some init))
    (hb : ∀ self, Looks (model prog w) h (bindSpecial init self) (init, [self]))
    (hq : codeAny (model prog w) (A.under (.builtin "type.__call__" ⟨[.ref C], []⟩)) (.call init ⟨[.ref (h.objs.size + 1)], []⟩) (InitBack (h.objs.size + 1) R) ⟨(h.push emptyDict).push (accObj C h.objs.size [] 0), g, d, t, os⟩) :
    codeAny (model prog w) A (.call (.ref C) ⟨[], []⟩) R ⟨h, g, d, t, os⟩ := by
  have Y' := Y
  obtain ⟨⟨oc, od, cd, sl, hC, e2, e4, hm⟩, made, base, self, top, call, typ⟩ := Y
  refine codeAny_of_tree ?_
  show wpAny _ _ (callAny (.ref C) _) _ _ _
  refine nd_load hC ?_
  show wpAny _ _ (callAny.viaDunder (.ref C) _) _ _ _
  unfold callAny.viaDunder
  refine wpAny_bind (call.at ?_)
  dsimp only
  rw [tc_bind]
  refine wpAny_bind (wpAny_pure (wpAny_bind (wpAny_pure ?_)))
  refine wpAny_pure (a := Fin.again (.call (.builtin "type.__call__") ⟨[.ref C], []⟩)) (And.intro rfl ?_)
  refine codeAny_call_builtin_at (Code.quiet_builtin _ (by decide +kernel)) entry_typeCall (check_slot tc_kind tc_split typ (tc_args _ _ _) ?_)
  unfold Builtin.«type.__call__»
  repeat (first | simp only [e4, Bool.false_eq_true, if_false] | with_reducible refine wpAny_call ?_ | lk)
  refine acc_new Y' ?_
  have k : ∀ b o, h.get? b = some o → ((h.push emptyDict).push (accObj C h.objs.size [] 0)).get? b = some o := fun b o e => Heap.get?_push_of_some _ (Heap.get?_push_of_some _ e)
  have hx : ((h.push emptyDict).push (accObj C h.objs.size [] 0)).get? (h.objs.size + 1) = some (accObj C h.objs.size [] 0) := by heap_get
  have t1 : Looks (model prog w) ((h.push emptyDict).push (accObj C h.objs.size [] 0)) (typeOf (.ref (h.objs.size + 1))) (.ref C) := (Looks.ld hx).andThen .now
  have s1 := self.keeps k
  have i1 := hi.keeps k
  have b1 := (hb (.ref (h.objs.size + 1))).keeps k
  unfold isInstance callSpecial? specialOf
  repeat (first | with_reducible refine wpAny_call ?_ | lk)
  refine codeAny_mono hq fun r s' z => ?_
  rcases r with e | (v | _ | _ | _) <;> first | exact z | exact z.elim | skip
  obtain ⟨rfl, z⟩ := z
  exact wpAny_pure (wpAny_pure z)
end
section
variable {prog : Program} {w : World} {A : Around} {K : Frag} {C x : Addr} {s : Shared} {h₀ : Heap} {L : Addr} {m : Str → Option Value} {news : List (Addr × Obj)} {R : Result → Shared → Prop}
theorem acc_make {fI : Addr} (F : Fr h₀ L s.heap m) (N : News h₀ L s.heap news) (X : K.In s.heap) (hm : accIn K C = true)
    (hi : findIn K (.ref C) "__init__" = some (some (.ref fI))) (hf : typeIn K (.ref fI) = some (.type "function"))
    (h : ∀ x dx h', Fr h₀ L h' m → News h₀ L h' ((x, accObj C dx [] 0) :: (dx, emptyDict) :: news) → (∀ p ∈ news, p.1 < dx) → dx < x →
      codeAny (model prog w) (A.under (.builtin "type.__call__" ⟨[.ref C], []⟩)) (.call (.ref fI) ⟨[.ref x], []⟩) (InitBack x R) { s with heap := h' }) :
    codeAny (model prog w) A (.call (.ref C) ⟨[], []⟩) R s := by
  obtain ⟨hh, g, d, t, os⟩ := s
  refine acc_core (acc_facts X hm) (looks_findIn X hi) (fun self => bind_fn X self hf) (h _ hh.objs.size _ ((F.push _).push _) ?_ (fun p hp => Heap.lt_size (N p hp).1) (Nat.lt_succ_self _))
  have := (N.push F emptyDict).push (F.push _) (accObj C hh.objs.size [] 0)
  rwa [Heap.size_push] at this
end
end
theorem anew_Su : True := by
  w_top off
  exact True.intro
theorem acc_inst {h₀ h : Heap} {L x C dx : Addr} {news : List (Addr × Obj)} {od : Obj} {vs : List Value} {n : Nat} (N : News h₀ L h news) (h1 : (x, accObj C dx vs n) ∈ news) (h2 : (dx, od) ∈ news) :
    InstAt h x (accObj C dx vs n) C (some od) := ⟨(N _ h1).1, rfl, rfl, (N _ h2).1⟩
set_option compiler.extract_closed false in
local macro_rules | `(tactic| k_inst) => `(tactic| (refine' acc_inst ?N ?h1 ?h2; (case N => k_asm); (case h1 => k_mem); (case h2 => k_mem)))
theorem wd_lookup_get : typeLookup (.type "wrapper_descriptor") "__get__" = pure (some (.builtin "wrapper_descriptor.__get__")) := by rw [typeLookup_type, builtinLookup_eq_fast]; kernel_rfl
theorem wd_slot_get : Slot "wrapper_descriptor" "__get__" "wrapper_descriptor.__get__" :=
  .of (owner := "wrapper_descriptor") (n := "__get__") wd_lookup_get (by decide +kernel) (by decide +kernel) (by decide +kernel)
    (by first | exact .inl (by decide +kernel) | exact .inr (by decide +kernel)) (by rw [isSubtype_type]; kernel_rfl)
theorem wd_entry_get : entryFor table "wrapper_descriptor.__get__" = some Builtin.«wrapper_descriptor.__get__» := by first | exact entryFor_of_tree (by kernel_rfl) | exact entryFor_of_fast (by kernel_rfl)
theorem wd_args (a b c : Value) : argsOk "wrapper_descriptor.__get__" ⟨[a, b, c], []⟩ := by unfold argsOk; kernel_rfl
theorem wd_type_len : typeOf (.builtin "list.__len__") = pure (.type "wrapper_descriptor") := by show builtinType _ = _; rw [builtinType_eq_fast]; kernel_rfl
theorem wd_type_init : typeOf (.builtin "list.__init__") = pure (.type "wrapper_descriptor") := by show builtinType _ = _; rw [builtinType_eq_fast]; kernel_rfl
abbrev wrapObj (id : String) (x : Addr) : Obj := { cls := .type "method-wrapper", data := .fields #[.builtin id, .ref x] }
section
variable {prog : Program} {w : World} {M : Model} {A : Around} {E : Value → Shared → Prop} {h : Heap} {g : Array GenState} {d : Drawn} {t : Nat} {os : OsState}
theorem sup_ga {so D x C : Addr} {id : String} {l₀ l : List Value} {K : Frag} {name : Str} {tk : Tok} {Q : Fin → Shared → Prop} (hid : id = "list.__len__" ∨ id = "list.__init__")
    (hso : h.get? so = some { cls := .type "super", dict := none, data := .fields #[.ref D, .ref x, .ref C], slots := #[] }) (hno : Looks (model prog w) h (opaqueClassAbove (.ref C)) none)
    (hC : Looks (model prog w) h (mroOf (.ref C)) l₀) (hl : (l₀.dropWhile (· != .ref D)).drop 1 = l) (X : K.In h)
    (hf : alongIn K name l = some (some (.builtin id))) (hxC : x ≠ C) (hn : (name == ("__class__" : Str)) = false) (hx : Looks (model prog w) h (isInstance (.ref x) (.type "list")) true)
    (hq : Q (.done (.ret (.ref h.objs.size))) ⟨h.push (wrapObj id x), g, d, t, os⟩) :
    wpAny (model prog w) A (Builtin.«super.__getattribute__» ⟨[.ref so, .str name tk], []⟩) Q E ⟨h, g, d, t, os⟩ := by
  have hne : (Value.ref x == Value.ref C) = false := by simp [hxC]
  have hdt : ({ cls := .type "super", dict := none, data := .fields #[.ref D, .ref x, .ref C], slots := #[] } : Obj).data = .fields #[.ref D, .ref x, .ref C] := rfl
  have f0 : (#[.ref D, .ref x, .ref C] : Array Value)[0]? = some (.ref D) := rfl
  have f1 : (#[.ref D, .ref x, .ref C] : Array Value)[1]? = some (.ref x) := rfl
  have f2 : (#[.ref D, .ref x, .ref C] : Array Value)[2]? = some (.ref C) := rfl
  have hty : typeOf (.builtin id) = pure (.type "wrapper_descriptor") := by rcases hid with rfl | rfl <;> first | exact wd_type_len | exact wd_type_init
  have hTf : ∀ s : Shared, s.TypeIs (.builtin id) "wrapper_descriptor" := fun s => hty
  unfold Builtin.«super.__getattribute__»
  repeat (first
    | (with_reducible refine wpAny_field hso hdt f0 ?_) | (with_reducible refine wpAny_field hso hdt f1 ?_) | (with_reducible refine wpAny_field hso hdt f2 ?_)
    | (with_reducible refine ks_wpAny_notOpaque hno ?_)
    | (with_reducible refine Looks.at hC ?_; rw [hl])
    | (refine ks_forIn_along X (fun _ _ => rfl) rfl ?_ hf)
    | (with_reducible refine wpAny_typeOf (hTf _) ?_)
    | (simp only [hn, hne, Bool.or_false, Bool.false_eq_true, if_false])
    | wp_step
    | dsimp only)
  refine wpAny_of_eq wd_lookup_get ?_
  dsimp only
  refine wpAny_bind (wpAny_holding (wpAny_call_entry wd_slot_get (hTf _) wd_entry_get ?_ (wd_args _ _ _)))
  have hx' : ∀ A Q E, Q true ⟨h, g, d, t, os⟩ → wpAny (model prog w) A (isInstance (.ref x) (.type "list")) Q E ⟨h, g, d, t, os⟩ := fun A Q E q => hx A Q E _ (fun _ _ e => e) q
  unfold Builtin.«wrapper_descriptor.__get__»
  rcases hid with rfl | rfl
  · refine wpAny_bind (wpAny_of_eq (a := (.builtin "list.__len__", some (.ref x), some (.ref C))) ?_ ?_)
    · rfl
    refine wpAny_bind (wpAny_bind (wpAny_of_eq (a := (Str.ofString "__len__", Value.type "list")) (by kernel_rfl) ?_))
    dsimp only
    refine wpAny_bind (hx' _ _ _ ?_)
    refine bm_if_false rfl (wpAny_pure ?_)
    refine wpAny_bind (wpAny_newObj_type ?_ (by show (2 : Nat) ≤ _; decide +kernel))
    exact wpAny_pure ⟨_, rfl, wpAny_bind (wpAny_pure (wpAny_pure (wpAny_pure hq)))⟩
  · refine wpAny_bind (wpAny_of_eq (a := (.builtin "list.__init__", some (.ref x), some (.ref C))) ?_ ?_)
    · rfl
    refine wpAny_bind (wpAny_bind (wpAny_of_eq (a := (Str.ofString "__init__", Value.type "list")) (by kernel_rfl) ?_))
    dsimp only
    refine wpAny_bind (hx' _ _ _ ?_)
    refine bm_if_false rfl (wpAny_pure ?_)
    refine wpAny_bind (wpAny_newObj_type ?_ (by show (2 : Nat) ≤ _; decide +kernel))
    exact wpAny_pure ⟨_, rfl, wpAny_bind (wpAny_pure (wpAny_pure (wpAny_pure hq)))⟩
theorem sup_getMethod {so D x C : Addr} {id : String} {l₀ l : List Value} {K : Frag} {name : Str} {pl : Sem Bool} {Q : Value × List Value → Shared → Prop} (hid : id = "list.__len__" ∨ id = "list.__init__")
    (hso : h.get? so = some { cls := .type "super", dict := none, data := .fields #[.ref D, .ref x, .ref C], slots := #[] }) (hno : Looks (model prog w) h (opaqueClassAbove (.ref C)) none)
    (hC : Looks (model prog w) h (mroOf (.ref C)) l₀) (hl : (l₀.dropWhile (· != .ref D)).drop 1 = l) (X : K.In h)
    (hf : alongIn K name l = some (some (.builtin id))) (hxC : x ≠ C) (hn : (name == ("__class__" : Str)) = false) (hx : Looks (model prog w) h (isInstance (.ref x) (.type "list")) true)
    (hq : Q (.ref h.objs.size, []) ⟨h.push (wrapObj id x), g, d, t + 1, os⟩) :
    wpAny (model prog w) A (getMethod (.ref so) name pl) Q E ⟨h, g, d, t, os⟩ := by
  have hlk := PySem.F.ks_slot_super_ga.lookup
  have hcan := PySem.F.ks_canon_super_ga
  have hT : ∀ t', (⟨h, g, d, t', os⟩ : Shared).TypeIs (.ref so) "super" := fun _ => ⟨_, hso, rfl⟩
  unfold getMethod
  refine wpAny_bind (wpAny_specialOf (hT _) hlk ?_)
  show wpAny _ _ (if (Manifest.canonical "super.__getattribute__" != "object.__getattribute__") = true then _ else _) _ _ _
  rw [if_pos hcan]
  unfold getAttr getAttrBy
  refine wpAny_bind (wpAny_bind (wpAny_mkText (wpAny_holding (wpAny_bind (wpAny_typeOf (hT _) (wpAny_bind (wpAny_of_eq hlk ?_)))))))
  show wpAny _ _ (getAttrByItsOwn (.ref so) (.str name t) (.type "super") (.builtin "super.__getattribute__") true false) _ _ _
  unfold getAttrByItsOwn hookBefore callGetattribute boundAndCalled
  refine wpAny_bind (wpAny_of_eq (show (if onTheHeap (.type "super") then typeLookup (.type "super") "__getattr__" else pure none) = pure none from rfl) ?_)
  refine wpAny_bind (wpAny_attempt (wpAny_holding ?_))
  show wpAny _ _ (bindSpecial (.builtin "super.__getattribute__") (.ref so) >>= _) _ _ _
  refine wpAny_bind (wpAny_of_eq (PySem.F.ks_slot_super_ga.bind _) ?_)
  refine wpAny_mono (Q := fun v s' => v = .ref h.objs.size ∧ s' = ⟨h.push (wrapObj id x), g, d, t + 1, os⟩) (E := fun _ _ => False)
    (wpAny_call_entry PySem.F.ks_slot_super_ga (hT _) PySem.F.ks_entry_super_ga (sup_ga hid hso hno hC hl X hf hxC hn hx ⟨_, rfl, rfl, rfl⟩) (PySem.F.ks_gaArgs_super _ _)) (fun v s' hv => ?_) fun _ _ z => z.elim
  obtain ⟨rfl, rfl⟩ := hv
  exact wpAny_pure (wpAny_pure hq)
end
section
variable {prog : Program} {w : World} {A : Around} {E : Value → Shared → Prop} {s : Shared} {h₀ : Heap} {L : Addr} {m mg mb : Str → Option Value} {news : List (Addr × Obj)} {K : Frag} {x C D so : Addr} {ox : Obj} {odx : Option Obj}
theorem sup_method {id : String} {name : Str} {pl : Sem Bool} {Q : Value × List Value → Shared → Prop} (hid : id = "list.__len__" ∨ id = "list.__init__") (F : Fr h₀ L s.heap m) (X₀ : K.In h₀) (N : News h₀ L s.heap news) (hso : (so, ks_superObj D x C) ∈ news) (I : InstAt s.heap x ox C odx) (ho : nsIn K cStatics "thirdparty.any" = some none)
    (hm : ks_superIn K C D name = some (some (.builtin id))) (hi : mroIn K C (.type "list") = some true) (hn : (name == ("__class__" : Str)) = false)
    (h : ∀ q h', Fr h₀ L h' m → News h₀ L h' ((q, wrapObj id x) :: news) → (∀ p ∈ news, p.1 < q) → Q (.ref q, []) { s with heap := h', toks := s.toks + 1 }) : wpAny (model prog w) A (getMethod (.ref so) name pl) Q E s := by
  have X : K.In s.heap := X₀.keeps F.keep
  obtain ⟨hh, g, d, t, os⟩ := s
  cases hc : clsIn K C with
  | none => unfold ks_superIn at hm; rw [hc] at hm; cases hm
  | some cd =>
    unfold ks_superIn at hm
    rw [hc] at hm
    refine sup_getMethod hid (N _ hso).1 (looks_opaque X ho) (l₀ := cd.mro) ?_ rfl X hm (ks_ne X I hc) hn (I.type.andThen (looks_mroIn X hi)) ?_
    · exact fun A Q E s k q => wpAny_bind ((looks_clsIn X hc) A _ E s k (wpAny_pure q))
    · obtain ⟨F', N', l'⟩ := ks_newsPush (s := ⟨hh, g, d, t, os⟩) (o := wrapObj id x) F N rfl (Heap.get?_push_at rfl rfl) (fun b o e => Heap.get?_push_of_some _ e)
      exact h _ _ F' N' l'
theorem wrap_call {id : String} {q : Addr} {b : Builtin} {R : Result → Shared → Prop} (hq : s.heap.get? q = some (wrapObj id x)) (hk : checkBoundCall id ⟨[.ref x], []⟩ = pure ()) (hpl : plainId id = true) (hb : entryFor table id = some b)
    (h : wpAny (model prog w) A.in1 (b ⟨[.ref x], []⟩) (fun fin s' => match fin with | .done f => R (.ok f) s' | .again c' => c'.quiet = true ∧ codeAny (model prog w) A c' R s') (fun e s' => R (.error e) s') s) :
    codeAny (model prog w) A (.call (.ref q) ⟨[], []⟩) R s := by
  refine codeAny_of_tree ?_
  show wpAny _ A.in1 (callAny (.ref q) _) _ _ _
  unfold callAny
  refine wpAny_bind (wpAny_load hq ?_)
  dsimp only
  refine bm_if_true rfl ?_
  show wpAny _ _ (checkBoundCall id ⟨[.ref x], []⟩ >>= _) _ _ _
  refine wpAny_bind (wpAny_of_eq hk ?_)
  refine wpAny_pure ⟨plainId_quiet hpl _, codeAny_builtin hb ?_⟩
  rw [Around.under_plainId hpl]
  exact h
theorem wl_check : checkBoundCall "list.__len__" ⟨[.ref x], []⟩ = pure () := by kernel_rfl
theorem wi_check : checkBoundCall "list.__init__" ⟨[.ref x], []⟩ = pure () := by kernel_rfl
end
theorem anew_Pc : True := by
  w_top off
  exact True.intro
set_option compiler.extract_closed false in
local macro_rules | `(tactic| walk_at "getMethod ref") => `(tactic| (k_here; k_dflt (refine' sup_method (id := "list.__len__") (.inl rfl) ?k1 ?k2 ?k3 ?k4 ?k5 ?k6 ?k7 ?k8 ?k9 ?_; (case k1 => k_asm); (case k2 => k_asm); (case k3 => k_asm); (case k4 => k_mem); (case k5 => k_inst); (case k6 => k_is); (case k7 => ks_is); (case k8 => k_is); (case k9 => decide); intro q' h' F' N' l1)))
set_option compiler.extract_closed false in
local macro_rules | `(tactic| walk_at "getMethod ref") => `(tactic| (k_here; k_dflt (refine' sup_method (id := "list.__init__") (.inr rfl) ?k1 ?k2 ?k3 ?k4 ?k5 ?k6 ?k7 ?k8 ?k9 ?_; (case k1 => k_asm); (case k2 => k_asm); (case k3 => k_asm); (case k4 => k_mem); (case k5 => k_inst); (case k6 => k_is); (case k7 => ks_is); (case k8 => k_is); (case k9 => decide); intro q' h' F' N' l1)))
section
variable {prog : Program} {w : World} {A : Around} {E : Value → Shared → Prop} {s : Shared} {x C dx : Addr} {vs : List Value} {n : Nat}
theorem callWith_wrap {pos : Pos} {id : String} {q : Addr} {M : Model} {Q : Value → Shared → Prop} (hq : s.heap.get? q = some (wrapObj id x)) (h : wpAny M A (call (.ref q) [] []) Q E s) : wpAny M A (callWith pos (.ref q) [] [] []) Q E s := by
  unfold callWith
  refine wpAny_bind (wpAny_holding (evalArgs_nil3 (wpAny_bind (wpAny_standAt ?_))))
  refine wpAny_bind (m := keeperOf (.ref q)) ?_
  unfold keeperOf
  refine wpAny_bind (wpAny_load hq ?_)
  refine bm_if_true rfl ?_
  refine wpAny_pure ?_
  exact wpAny_bind (wpAny_mono h (fun r s₂ hr => wpAny_bind (wpAny_holding (wpAny_point (wpAny_pure hr)))) fun _ _ x => x)
theorem acc_len {R : Result → Shared → Prop} (hx : s.heap.get? x = some (accObj C dx vs n)) (h : ∀ t k, R (.ok (.ret (.int (vs.length : Nat) t))) { s with toks := k }) :
    wpAny (model prog w) A.in1 (Builtin.«list.__len__» ⟨[.ref x], []⟩) (fun fin s' => match fin with | .done f => R (.ok f) s' | .again c' => c'.quiet = true ∧ codeAny (model prog w) A c' R s') (fun e s' => R (.error e) s') s := by
  show wpAny _ _ (seqSize x >>= fun k => retInt (k : Int)) _ _ _
  unfold seqSize
  refine wpAny_bind (wpAny_bind (wpAny_loadPart hx ?_))
  refine wpAny_pure ?_
  unfold retInt
  refine wpAny_bind (wpAny_mkInt (wpAny_pure ?_))
  have e : vs.toArray.size = vs.length := List.size_toArray
  rw [e]
  exact h _ _
theorem acc_init {R : Result → Shared → Prop} (hx : s.heap.get? x = some (accObj C dx [] 0)) (h : ∀ h', h'.get? x = some (accObj C dx [] 0) → Heap.SameBut x s.heap h' → R (.ok (.ret .none)) { s with heap := h' }) :
    wpAny (model prog w) A.in1 (Builtin.«list.__init__» ⟨[.ref x], []⟩) (fun fin s' => match fin with | .done f => R (.ok f) s' | .again c' => c'.quiet = true ∧ codeAny (model prog w) A c' R s') (fun e s' => R (.error e) s') s := by
  show wpAny _ _ (do let old ← Builtin.List.listItems (.ref x); Builtin.List.listUpdate (.ref x) (fun _ => #[]); letGo old.toList.reverse; ret .none) _ _ s
  refine wpAny_bind ?_
  unfold Builtin.List.listItems
  refine wpAny_bind (wpAny_seqItems hx rfl (wpAny_pure ?_))
  show wpAny _ _ (updateSeq x (fun _ => #[]) >>= _) _ _ _
  refine wpAny_bind (wpAny_updateSeq hx rfl ?_ (by simp))
  refine wpAny_bind (wpAny_letGo ?_)
  refine wpAny_pure (h _ ?_ (Heap.SameBut.update ..))
  exact Heap.get?_update_self (Obj.mapSeq (fun _ => (#[] : Array Value))) hx rfl
theorem acc_len_call {pos : Pos} {q : Addr} {Q : Value → Shared → Prop} (hq : s.heap.get? q = some (wrapObj "list.__len__" x)) (hx : s.heap.get? x = some (accObj C dx vs n)) (h : ∀ t k, Q (.int (vs.length : Nat) t) { s with toks := k }) :
    wpAny (model prog w) A (callWith pos (.ref q) [] [] []) Q E s :=
  callWith_wrap hq (wpAny_call (wrap_call hq wl_check (by decide +kernel) entry_list_len (acc_len (R := fun r s' => match r with | .ok (.ret v) => Q v s' | .ok _ => False | .error e => E e s') hx h)))
theorem acc_init_call {pos : Pos} {q : Addr} {Q : Value → Shared → Prop} (hq : s.heap.get? q = some (wrapObj "list.__init__" x)) (hx : s.heap.get? x = some (accObj C dx [] 0)) (h : ∀ h', h'.get? x = some (accObj C dx [] 0) → Heap.SameBut x s.heap h' → Q .none { s with heap := h' }) :
    wpAny (model prog w) A (callWith pos (.ref q) [] [] []) Q E s :=
  callWith_wrap hq (wpAny_call (wrap_call hq wi_check (by decide +kernel) PySem.F.entry_list_init (acc_init (R := fun r s' => match r with | .ok (.ret v) => Q v s' | .ok _ => False | .error e => E e s') hx h)))
end
theorem News.here {h₀ h : Heap} {L : Addr} {a : Addr} {o : Obj} {l : List (Addr × Obj)} (N : News h₀ L h ((a, o) :: l)) : h.get? a = some o := (N _ (.head _)).1
theorem part_count_does (w : World) (p : Program) (loose : List Str) (mean : PySem.ExcName → Option Value) (mg mb : Str → Option Value) (x dx : Addr) (vs : List Value) (nn : Nat) (od : Obj) (rest : List (Addr × Obj)) (hlen : vs.length ≤ 1000) :
    Does w p loose mean mg mb 129 7 96 [.ref x] [] ((x, accObj 132 dx vs nn) :: (dx, od) :: rest) (fun r news' => ∃ t, r = .int (vs.length : Nat) t ∧ news' = (x, accObj 132 dx vs nn) :: (dx, od) :: rest) := by
  unfold Does
  k_fill
  intro dp un gd cn cs a ccd cl outer A₀ base h₀ L m s Q E B F X T hk hd hu N hret
  refine wpAny_call ?_
  (k_dflt (refine' ks_code_super ?k1 ?k2 ?k3 ?k4 ?k5 ?kA ?kF ?kK ?k6 ?k7 ?k8 ?k9 ?kB ?_ ?c1 ?c2 ?c3 ?c4; (case kA => exact rfl); (case kF => exact rfl); (case kK => assumption); (case k1 => k_asm); (case k2 => k_asm); (case k3 => k_asm); (case k4 => k_asm); (case k5 => k_asm); (case k6 => k_is); (case k7 => k_is); (case k8 => ktr_room); (case k9 => first | exact BindsTo.of_eq rfl | exact binds_K (by k_in) rfl (by k_is) rfl rfl rfl | (refine' kp_binds ?kx ?ke; (case kx => k_in); (case ke => exact fun _ => rfl))); (case kB => exact locs rfl); (case c1 => decide); (case c2 => exact rfl); (case c3 => exact rfl); (case c4 => exact rfl); intro _ _ _ _ _ _ _ _ _ _; (try dsimp only); (try k_fold)))
  (repeat' (first | (k_unfold; (try dsimp only)) | ((((fail_if_success (with_reducible show wpAny _ _ (exec (Stmt.While _ _ _ _) _) _ _ _)); (fail_if_success (with_reducible show wpAny _ _ (exec (Stmt.For _ _ _ _ _) _) _ _ _)); (fail_if_success (with_reducible show wpAny _ _ (pyIter _) _ _ _)))); walk1) | ((((fail_if_success (with_reducible show wpAny _ _ (exec (Stmt.While _ _ _ _) _) _ _ _)); (fail_if_success (with_reducible show wpAny _ _ (exec (Stmt.For _ _ _ _ _) _) _ _ _)); (fail_if_success (with_reducible show wpAny _ _ (pyIter _) _ _ _)))); dsimp only; walk1) | fail "no step"))
  rename_i N5 _
  k_dflt (refine acc_len_call (News.here N5) (N5 _ (.tail _ (.tail _ (.head _)))).1 fun t k => ?_)
  (repeat' (first | (k_unfold; (try dsimp only)) | ((((fail_if_success (with_reducible show wpAny _ _ (exec (Stmt.While _ _ _ _) _) _ _ _)); (fail_if_success (with_reducible show wpAny _ _ (exec (Stmt.For _ _ _ _ _) _) _ _ _)); (fail_if_success (with_reducible show wpAny _ _ (pyIter _) _ _ _)))); walk1) | ((((fail_if_success (with_reducible show wpAny _ _ (exec (Stmt.While _ _ _ _) _) _ _ _)); (fail_if_success (with_reducible show wpAny _ _ (exec (Stmt.For _ _ _ _ _) _) _ _ _)); (fail_if_success (with_reducible show wpAny _ _ (pyIter _) _ _ _)))); dsimp only; walk1) | fail "no step"))
  exact hret _ _ _ _ (by assumption) (News.sub (by assumption) fun p hp => .tail _ (.tail _ hp)) ⟨_, rfl, rfl⟩
abbrev szObj (kh : Int) (tk : Tok) : Obj := dictOf [⟨kh, .str (Str.ofString "_initial_size") tk, .int 0 255⟩] 1
theorem own_list : classOwn (.type "list") "__setattr__" = pure none := by
  first | kernel_rfl | rfl
theorem refuse_list (self : Value) (l : List Value) : refuseLoop self "__setattr__" (.type "list" :: l) = refuseLoop self "__setattr__" l := by
  unfold refuseLoop
  rw [List.forIn_cons, own_list]
  rfl
theorem refuse_acc (self : Value) (C : Addr) : refuseLoop self "__setattr__" [.ref C, .type "list", .type "object"] = pure () := by
  rw [refuseLoop_ref, refuse_list]
  exact PySem.F.store_object.passes self
section
open Builtin Builtin.ObjectAttr
variable {prog : Program} {w : World} {A : Around} {E : Value → Shared → Prop} {s : Shared} {h₀ : Heap} {L : Addr} {m : Str → Option Value} {K : Frag} {x C dx : Addr} {vs : List Value} {n : Nat} {rest : List (Addr × Obj)}
theorem putName_empty (name : Str) (hh : Int) (key v : Value) : Obj.putName name hh key v emptyDict = dictOf [⟨hh, key, v⟩] 1 := rfl
theorem acc_osa {name : Str} {tk : Tok} {v : Value} {cd : ClassData} {R : Result → Shared → Prop} (F : Fr h₀ L s.heap m) (X₀ : K.In h₀) (N : News h₀ L s.heap ((x, accObj C dx vs n) :: (dx, emptyDict) :: rest)) (ho : ∀ p ∈ rest, p.1 ≠ dx) (hxd : x ≠ dx)
    (hc : clsIn K C = some cd) (hm : cd.mro = [.ref C, .type "list", .type "object"]) (hd : cd.hasDict = true) (ht : findIn K (.ref C) name = some none)
    (h : ∀ h' kh tk k, Fr h₀ L h' m → News h₀ L h' ((x, accObj C dx vs n) :: (dx, dictOf [⟨kh, .str name tk, v⟩] 1) :: rest) → R (.ok (.ret .none)) { s with heap := h', toks := k }) : codeAny (model prog w) A (.call (.builtin "object.__setattr__") ⟨[.ref x, .str name tk, v], []⟩) R s := by
  have X : K.In s.heap := X₀.keeps F.keep
  have I : InstAt s.heap x (accObj C dx vs n) C (some emptyDict) := ⟨(N _ (.head _)).1, rfl, rfl, (N _ (.tail _ (.head _))).1⟩
  have SF := PySem.F.store_object
  have hmr : Looks (model prog w) s.heap (mroOf (.ref C)) [.ref C, .type "list", .type "object"] := hm ▸ (looks_clsIn X hc).andThen .now
  have sub : Looks (model prog w) s.heap (isInstance (.ref x) (.type "object")) true := I.type.andThen (looks_mroIn X (by unfold mroIn; rw [hc, Option.bind_some, hm]; rfl))
  refine codeAny_call_builtin SF.slot.plain SF.entry (@check_slot (model prog w) _ _ s "object.__setattr__" "object" "__setattr__" (.ref x) [.str name tk, v] [] _ SF.kind SF.split sub (SF.args (.ref x) (.str name tk) v) ?_)
  rw [osa_eq, refuse_eq]
  refine wpAny_bind (wpAny_bind (I.type.here (wpAny_bind (hmr.here ?_))))
  rw [refuse_acc]
  refine wpAny_pure (wpAny_bind (I.type.here (wpAny_bind ((looks_findIn X ht).here (wpAny_bind (wpAny_pure ?_))))))
  have D := (N _ (.tail _ (.head _))).1
  have hx := I.at_
  refine wpAny_bind (wpAny_pure (wpAny_bind (wpAny_bind (wpAny_loadPart hx (wpAny_bind ((looks_clsIn X hc).here ?_))))))
  rw [hd]
  refine wpAny_pure (a := some dx) (wpAny_bind (wpAny_pure (wpAny_bind ?_)))
  unfold nsSet
  refine wpAny_bind (wpAny_bind (wpAny_askSetting (wpAny_pure (wpAny_bind (wpAny_mkText (wpAny_bind (wpAny_loadPart D ?_)))))))
  dsimp only
  rw [aRefKeyMayBeTheName_at]
  refine bm_if_false (by simp) ?_
  refine wpAny_updatePart D ?_
  generalize (if name.cps.isEmpty = true then (0 : Int) else _) = kh
  have eput := putName_empty name kh (.str name s.toks) v
  have N2 : News h₀ L s.heap ([(x, accObj C dx vs n)] ++ (dx, emptyDict) :: rest) := N
  obtain ⟨U1, U2⟩ := news_upd (f := Obj.putName name kh (.str name s.toks) v) F N2 (by intro p hp; rw [List.mem_singleton.mp hp]; exact hxd) ho eput rfl
  have D' := (U2 (dx, dictOf [⟨kh, .str name s.toks, v⟩] 1) (by simp)).1
  refine wpAny_bind (wpAny_lookBehind D' (pastItsLine_dict (by rw [sizeLine_eq]; simp)) ?_)
  exact wpAny_pure (h _ _ _ _ U1 U2)
theorem acc_set {name : Str} {v : Value} {cd : ClassData} {Q : Unit → Shared → Prop} (F : Fr h₀ L s.heap m) (X₀ : K.In h₀) (N : News h₀ L s.heap ((x, accObj C dx vs n) :: (dx, emptyDict) :: rest)) (ho : ∀ p ∈ rest, p.1 ≠ dx) (hxd : x ≠ dx)
    (hs : findIn K (.ref C) "__setattr__" = some (some (.builtin "object.__setattr__"))) (hc : clsIn K C = some cd) (hm : cd.mro = [.ref C, .type "list", .type "object"]) (hd : cd.hasDict = true) (ht : findIn K (.ref C) name = some none)
    (h : ∀ h' kh tk k, Fr h₀ L h' m → News h₀ L h' ((x, accObj C dx vs n) :: (dx, dictOf [⟨kh, .str name tk, v⟩] 1) :: rest) → Q () { s with heap := h', toks := k }) : wpAny (model prog w) A (setAttr (.ref x) name v) Q E s :=
  set_plain (X₀.keeps F.keep) (ox := accObj C dx vs n) (od := some emptyDict) ⟨(N _ (.head _)).1, rfl, rfl, (N _ (.tail _ (.head _))).1⟩ hs (acc_osa (s := { s with toks := s.toks + 1 }) F X₀ N ho hxd hc hm hd ht fun h' kh tk k F' N' => h h' kh tk k F' N')
end
theorem head_upd {h₀ h h' : Heap} {L x : Addr} {m : Str → Option Value} {o o' : Obj} {rest : List (Addr × Obj)} (F : Fr h₀ L h m) (N : News h₀ L h ((x, o) :: rest)) (ho : ∀ p ∈ rest, p.1 ≠ x) (g : h'.get? x = some o') (sb : Heap.SameBut x h h') :
    Fr h₀ L h' m ∧ News h₀ L h' ((x, o') :: rest) := by
  have hL : x ≠ L := (N _ (.head _)).2.1
  have hn : h₀.get? x = none := (N _ (.head _)).2.2
  refine ⟨⟨F.ns.at' fun o e => (sb.2 L (Ne.symm hL)).trans e, fun b' o e => (sb.2 b' fun q => by rw [q, hn] at e; cases e).trans (F.keep b' o e), F.above⟩, fun p hp => ?_⟩
  rcases List.mem_cons.mp hp with rfl | hp
  · exact ⟨g, hL, hn⟩
  · exact ⟨(sb.2 p.1 (ho p hp)).trans (N p (.tail _ hp)).1, (N p (.tail _ hp)).2⟩
theorem news_same {h₀ h h' : Heap} {L x : Addr} {m : Str → Option Value} {o : Obj} {l : List (Addr × Obj)} (F : Fr h₀ L h m) (N : News h₀ L h l) (hx : (x, o) ∈ l) (g : h'.get? x = some o) (sb : Heap.SameBut x h h') :
    Fr h₀ L h' m ∧ News h₀ L h' l := by
  have hL : x ≠ L := (N _ hx).2.1
  have hn : h₀.get? x = none := (N _ hx).2.2
  refine ⟨⟨F.ns.at' fun o e => (sb.2 L (Ne.symm hL)).trans e, fun b' o e => (sb.2 b' fun q => by rw [q, hn] at e; cases e).trans (F.keep b' o e), F.above⟩, fun p hp => ?_⟩
  by_cases hpx : p.1 = x
  · have h1 := (N p hp).1
    rw [hpx, (N _ hx).1] at h1
    exact ⟨by rw [hpx, g, ← h1], (N p hp).2⟩
  · exact ⟨(sb.2 p.1 hpx).trans (N p hp).1, (N p hp).2⟩
theorem acc_make_does (w : World) (p : Program) (loose : List Str) (mean : PySem.ExcName → Option Value) (mg mb : Str → Option Value) (rest : List (Addr × Obj)) :
    Does w p loose mean mg mb 132 7 96 [] [] rest (fun r news' => ∃ x dx kh tk, r = .ref x ∧ news' = (x, accObj 132 dx [] 0) :: (dx, szObj kh tk) :: rest ∧ (∀ p ∈ rest, p.1 < dx) ∧ dx < x) := by
  unfold Does
  k_fill
  intro dp un gd cn cs a ccd cl outer A₀ base h₀ L m s Q E B F X T hk hd hu N hret
  refine wpAny_call ?_
  refine acc_make (K := Mine.hd.heap_1 w.params) (fI := 70) F N (Frag.In.keeps X F.keep) (by kernel_rfl) (by k_is) (by k_is) fun x dx h1 F1 N1 l1 l2 => ?_
  (k_dflt (refine' ks_code_super ?k1 ?k2 ?k3 ?k4 ?k5 ?kA ?kF ?kK ?k6 ?k7 ?k8 ?k9 ?kB ?_ ?c1 ?c2 ?c3 ?c4; (case kA => exact rfl); (case kF => exact rfl); (case kK => assumption); (case k1 => k_asm); (case k2 => k_asm); (case k3 => k_asm); (case k4 => k_asm); (case k5 => k_asm); (case k6 => k_is); (case k7 => k_is); (case k8 => ktr_room); (case k9 => first | exact BindsTo.of_eq rfl | exact binds_K (by k_in) rfl (by k_is) rfl rfl rfl | (refine' kp_binds ?kx ?ke; (case kx => k_in); (case ke => exact fun _ => rfl))); (case kB => exact locs rfl); (case c1 => decide); (case c2 => exact rfl); (case c3 => exact rfl); (case c4 => exact rfl); intro _ _ _ _ _ _ _ _ _ _; (try dsimp only); (try k_fold)))
  (repeat' (first | (k_unfold; (try dsimp only)) | ((((fail_if_success (with_reducible show wpAny _ _ (exec (Stmt.While _ _ _ _) _) _ _ _)); (fail_if_success (with_reducible show wpAny _ _ (exec (Stmt.For _ _ _ _ _) _) _ _ _)); (fail_if_success (with_reducible show wpAny _ _ (pyIter _) _ _ _)))); walk1) | ((((fail_if_success (with_reducible show wpAny _ _ (exec (Stmt.While _ _ _ _) _) _ _ _)); (fail_if_success (with_reducible show wpAny _ _ (exec (Stmt.For _ _ _ _ _) _) _ _ _)); (fail_if_success (with_reducible show wpAny _ _ (pyIter _) _ _ _)))); dsimp only; walk1) | fail "no step"))
  rotate_left 6
  k_dflt (refine acc_set (K := Mine.hd.heap_1 w.params) (C := 132) (dx := dx) (vs := []) (n := 0) (rest := rest) (by k_asm) (by k_asm) (by k_asm) (fun p hp => Nat.ne_of_lt (l1 p hp)) (Nat.ne_of_gt l2) (by k_is) (by k_is) rfl rfl (by k_is) fun h2 kh tk k F2 N2 => ?_)
  dsimp only
  refine ks_wpAt_execs_cons ?_
  refine ks_wpAt_Expr_any ?_
  refine ks_wpAt_MethodCall ?_
  (repeat' (first | (k_unfold; (try dsimp only)) | ((((fail_if_success (with_reducible show wpAny _ _ (exec (Stmt.While _ _ _ _) _) _ _ _)); (fail_if_success (with_reducible show wpAny _ _ (exec (Stmt.For _ _ _ _ _) _) _ _ _)); (fail_if_success (with_reducible show wpAny _ _ (pyIter _) _ _ _)))); walk1) | ((((fail_if_success (with_reducible show wpAny _ _ (exec (Stmt.While _ _ _ _) _) _ _ _)); (fail_if_success (with_reducible show wpAny _ _ (exec (Stmt.For _ _ _ _ _) _) _ _ _)); (fail_if_success (with_reducible show wpAny _ _ (pyIter _) _ _ _)))); dsimp only; walk1) | fail "no step"))
  rename_i N5 _
  k_dflt (refine acc_init_call (x := x) (C := 132) (dx := dx) (News.here N5) (N5 _ (.tail _ (.tail _ (.head _)))).1 fun h3 g3 sb3 => ?_)
  obtain ⟨F6, N6⟩ := news_same (by assumption) N5 (.tail _ (.tail _ (.head _))) g3 sb3
  clear N5
  dsimp only
  (repeat' (first | (k_unfold; (try dsimp only)) | ((((fail_if_success (with_reducible show wpAny _ _ (exec (Stmt.While _ _ _ _) _) _ _ _)); (fail_if_success (with_reducible show wpAny _ _ (exec (Stmt.For _ _ _ _ _) _) _ _ _)); (fail_if_success (with_reducible show wpAny _ _ (pyIter _) _ _ _)))); walk1) | ((((fail_if_success (with_reducible show wpAny _ _ (exec (Stmt.While _ _ _ _) _) _ _ _)); (fail_if_success (with_reducible show wpAny _ _ (exec (Stmt.For _ _ _ _ _) _) _ _ _)); (fail_if_success (with_reducible show wpAny _ _ (pyIter _) _ _ _)))); dsimp only; walk1) | fail "no step"))
  exact hret _ _ _ _ (by assumption) (News.sub (by assumption) (fun p hp => .tail _ (.tail _ hp))) ⟨x, dx, kh, tk, rfl, rfl, l1, l2⟩
  all_goals exact default
theorem anew_Pu : True := by
  w_top off
  exact True.intro
abbrev tupObj (vs : List Value) : Obj := { cls := .type "tuple", data := .seq vs.toArray }
section
variable {prog : Program} {w : World} {A : Around} {E : Value → Shared → Prop} {s : Shared} {h₀ : Heap} {L : Addr} {m : Str → Option Value} {K : Frag} {x C dx : Addr} {vs : List Value} {n k : Nat} {es : List DictEntry} {news : List (Addr × Obj)}
theorem acc_method {name : Str} {pl : Sem Bool} {Q : Value × List Value → Shared → Prop} {f tf : Value} (F : Fr h₀ L s.heap m) (X₀ : K.In h₀) (N : News h₀ L s.heap news) (h1 : (x, accObj C dx vs n) ∈ news) (h2 : (dx, dictOf es k) ∈ news)
    (hga : findIn K (.ref C) "__getattribute__" = some (some (.builtin "list.__getattribute__"))) (hk : findIn K (.ref C) "__getattr__" = some none)
    (hf : findIn K (.ref C) name = some (some f)) (ht : typeIn K f = some tf) (htf : (tf != .type "function" && tf != .type "method_descriptor" && tf != .type "wrapper_descriptor") = false) (hl : getL name es = some none)
    (h : Q (f, [.ref x]) s) : wpAny (model prog w) A (getMethod (.ref x) name pl) Q E s := by
  have X : K.In s.heap := X₀.keeps F.keep
  have I : InstAt s.heap x (accObj C dx vs n) C (some (dictOf es k)) := acc_inst N h1 h2
  have hcan : (Manifest.canonical "list.__getattribute__" != "object.__getattribute__") = false := by decide +kernel
  unfold getMethod specialOf
  refine wpAny_bind (wpAny_bind (I.type.here ((looks_findIn X hga).here ?_)))
  dsimp only
  rw [hcan, if_neg (by decide)]
  refine wpAny_bind (wpAny_bind (I.type.here ((looks_findIn X hk).here ?_)))
  refine wpAny_bind (wpAny_bind (I.type.here ((looks_findIn X hf).here (wpAny_bind ((looks_typeIn X ht).here ?_)))))
  rw [htf, if_neg (by decide)]
  refine wpAny_bind (wpAny_loadPart I.at_ ?_)
  have e := nsLook_of (name := name) (o := dictOf es k) (r := none) (by rw [lookIn_dict, hl])
  refine wpAny_bind (wpAny_bind (wpAny_loadPart (N _ h2).1 ?_))
  rw [e]
  exact wpAny_pure (wpAny_bind (wpAny_rule (wpAny_pure h)))
end
set_option compiler.extract_closed false in
local macro_rules | `(tactic| walk_at "getMethod ref") => `(tactic| (k_here; k_dflt (refine' acc_method (C := 132) ?k1 ?k2 ?k3 ?k4 ?k5 ?k6 ?k7 ?k8 ?k9 ?k10 ?k11 ?_; (case k1 => k_asm); (case k2 => k_asm); (case k3 => k_asm); (case k4 => k_mem); (case k5 => k_mem); (case k6 => k_is); (case k7 => k_is); (case k8 => k_is); (case k9 => k_is); (case k10 => decide +kernel); (case k11 => k_get))))
theorem la_kind : builtinKind "list.append" = some .method := by decide +kernel
theorem la_split : splitId "list.append" = some ("list", "append") := by decide +kernel
theorem la_args (a b : Value) : argsOk "list.append" ⟨[a, b], []⟩ := by unfold argsOk; kernel_rfl
section
variable {prog : Program} {w : World} {A : Around} {E : Value → Shared → Prop} {s : Shared} {h₀ : Heap} {L : Addr} {m : Str → Option Value} {K : Frag} {x C dx : Addr} {vs : List Value} {n k : Nat} {rest news : List (Addr × Obj)}
theorem check_meth {M : Model} {i owner n : String} {self : Value} {rest : List Value} {kw : List (Str × Value)} {Q : Unit → Shared → Prop}
    (hk : builtinKind i = some .method) (hs : splitId i = some (owner, n)) (hi : Looks M s.heap (isInstance self (.type owner)) true) (ha : argsOk i ⟨self :: rest, kw⟩) (q : Q () s) :
    wpAny M A (checkBuiltinCall i ⟨self :: rest, kw⟩) Q E s := by
  simp only [checkBuiltinCall, hk, hs]
  refine wpAny_bind (hi.here ?_)
  simp only [Bool.not_true, Bool.false_eq_true, if_false]
  cases hsig : Manifest.signature? i with
  | none => exact wpAny_pure q
  | some sig =>
    simp only [argsOk, hsig] at ha
    have h2 : Bind.checkArgs i sig ⟨self :: rest, kw⟩ = pure () := ha
    show wpAny M A (Bind.checkArgs i sig ⟨self :: rest, kw⟩) Q E s
    rw [h2]; exact wpAny_pure q
theorem acc_append {v : Value} {od : Obj} {Q : Value → Shared → Prop} (F : Fr h₀ L s.heap m) (X₀ : K.In h₀) (N : News h₀ L s.heap ((x, accObj C dx vs n) :: rest)) (hdx : (dx, od) ∈ rest) (ho : ∀ p ∈ rest, p.1 ≠ x) (hi : mroIn K C (.type "list") = some true) (hz : vs.length ≤ 1000)
    (h : ∀ h' n', Fr h₀ L h' m → News h₀ L h' ((x, accObj C dx (vs ++ [v]) n') :: rest) → Q .none { s with heap := h' }) : wpAny (model prog w) A (call (.builtin "list.append") [.ref x, v]) Q E s := by
  have X : K.In s.heap := X₀.keeps F.keep
  have I : InstAt s.heap x (accObj C dx vs n) C (some od) := acc_inst N (.head _) (.tail _ hdx)
  have hl : Looks (model prog w) s.heap (isInstance (.ref x) (.type "list")) true := I.type.andThen (looks_mroIn X hi)
  refine wpAny_call (codeAny_call_builtin PySem.F.slot_list_append.plain PySem.F.entry_list_append (check_meth la_kind la_split hl (la_args _ _) ?_))
  unfold Builtin.«list.append»
  refine wpAny_bind (wpAny_of_eq (a := (Value.ref x, v)) rfl ?_)
  dsimp only
  refine wpAny_bind ?_
  show wpAny _ _ (updateSeq x (·.push v)) _ _ _
  have hsz : vs.toArray.size ≤ 1000 := by simpa using hz
  refine wpAny_updateSeq I.at_ rfl ?_ (by rw [sizeLine_eq]; omega) (by rw [Array.size_push, sizeLine_eq]; omega)
  obtain ⟨n', he⟩ : ∃ n', Obj.mapSeq (·.push v) (accObj C dx vs n) = accObj C dx (vs ++ [v]) n' := by
    refine ⟨if (vs ++ [v]).toArray.size == vs.toArray.size then n else n + 1, ?_⟩
    show (⟨.ref C, some dx, .seq (vs.toArray.push v) (if (vs.toArray.push v).size == vs.toArray.size then n else n + 1), #[]⟩ : Obj) = _
    rw [List.push_toArray]
  have g := Heap.get?_update_self (Obj.mapSeq (·.push v)) I.at_ (by rw [he]; rfl)
  rw [he] at g
  obtain ⟨F', N'⟩ := head_upd F N ho g (Heap.SameBut.update ..)
  exact wpAny_pure (h _ _ F' N')
end
theorem lt_of_allLt {d : Addr} : ∀ {l : List (Addr × Obj)}, AllLt d l → ∀ p ∈ l, p.1 < d
  | [], _, _, hp => nomatch hp
  | _ :: _, h, _, .head _ => h.1
  | _ :: _, h, _, .tail _ hp => lt_of_allLt h.2 _ hp
theorem push_does (w : World) (p : Program) (loose : List Str) (mean : PySem.ExcName → Option Value) (mg mb : Str → Option Value) (x dx : Addr) (vs : List Value) (nn : Nat) (kh : Int) (tk0 : Tok) (rest : List (Addr × Obj)) (y : Nat) (tf ty : Tok) (hlen : vs.length ≤ 1000) (hxd : x ≠ dx) (ho : ∀ p ∈ rest, p.1 ≠ x) :
    Does w p loose mean mg mb 77 7 96 [.ref x, .str "" tf, .str (th y) ty] [] ((x, accObj 132 dx vs nn) :: (dx, szObj kh tk0) :: rest) (fun r news' => ∃ D n', r = .none ∧ news' = (x, accObj 132 dx (vs ++ [.ref D]) n') :: (D, tupObj [.str "" tf, .str (th y) ty]) :: (dx, szObj kh tk0) :: rest ∧ (∀ p ∈ (D, tupObj [.str "" tf, .str (th y) ty]) :: (dx, szObj kh tk0) :: rest, p.1 ≠ x) ∧ x < D ∧ dx < D ∧ ∀ p ∈ rest, p.1 < D) := by
  unfold Does
  k_fill
  intro dp un gd cn cs a ccd cl outer A₀ base h₀ L m s Q E B F X T hk hd hu N hret
  refine wpAny_call ?_
  (k_dflt (refine' code_def ?k1 ?k2 ?k3 ?k4 ?k5 ?kA ?kF ?kK ?k6 ?k7 ?k8 ?k9 ?kB ?_ ?c2 ?c3 ?c4 ?c5; (case kA => exact rfl); (case kF => exact rfl); (case kK => assumption); (case k1 => k_asm); (case k2 => k_asm); (case k3 => k_asm); (case k4 => k_asm); (case k5 => k_asm); (case k6 => k_is); (case k7 => k_is); (case k8 => ktr_room); (case k9 => first | exact BindsTo.of_eq rfl | exact binds_K (by k_in) rfl (by k_is) rfl rfl rfl | (refine' kp_binds ?kx ?ke; (case kx => k_in); (case ke => exact fun _ => rfl))); (case c5 => decide); (case kB => exact locs rfl); (case c2 => exact rfl); (case c3 => exact rfl); (case c4 => exact rfl); k_whole; intro _ _ _ _ _ _ _ _ _; (try dsimp only); (try k_fold)))
  (repeat' (first | (k_unfold; (try dsimp only)) | ((((fail_if_success (with_reducible show wpAny _ _ (exec (Stmt.While _ _ _ _) _) _ _ _)); (fail_if_success (with_reducible show wpAny _ _ (exec (Stmt.For _ _ _ _ _) _) _ _ _)); (fail_if_success (with_reducible show wpAny _ _ (pyIter _) _ _ _)))); walk1) | ((((fail_if_success (with_reducible show wpAny _ _ (exec (Stmt.While _ _ _ _) _) _ _ _)); (fail_if_success (with_reducible show wpAny _ _ (exec (Stmt.For _ _ _ _ _) _) _ _ _)); (fail_if_success (with_reducible show wpAny _ _ (pyIter _) _ _ _)))); dsimp only; walk1) | fail "no step"))
  rename_i D9 h9 F9 N9 l9
  have N10 := News.swap N9
  clear N9
  k_dflt (refine acc_append (K := Mine.hd.heap_1 w.params) (C := 132) (dx := dx) (vs := vs) (n := nn) (od := szObj kh tk0) (by k_asm) (by k_asm) N10 (.tail _ (.head _)) (off_cons (Nat.ne_of_gt l9.1) (off_cons hxd.symm ho)) (by k_is) hlen fun h10 n10 F10 N11 => ?_)
  (repeat' (first | (k_unfold; (try dsimp only)) | ((((fail_if_success (with_reducible show wpAny _ _ (exec (Stmt.While _ _ _ _) _) _ _ _)); (fail_if_success (with_reducible show wpAny _ _ (exec (Stmt.For _ _ _ _ _) _) _ _ _)); (fail_if_success (with_reducible show wpAny _ _ (pyIter _) _ _ _)))); walk1) | ((((fail_if_success (with_reducible show wpAny _ _ (exec (Stmt.While _ _ _ _) _) _ _ _)); (fail_if_success (with_reducible show wpAny _ _ (exec (Stmt.For _ _ _ _ _) _) _ _ _)); (fail_if_success (with_reducible show wpAny _ _ (pyIter _) _ _ _)))); dsimp only; walk1) | fail "no step"))
  exact hret _ _ _ _ (by assumption) (by assumption) ⟨_, _, rfl, rfl, off_cons (Nat.ne_of_gt l9.1) (off_cons hxd.symm ho), l9.1, l9.2.1, lt_of_allLt l9.2.2⟩
theorem anew_Po : True := by
  w_top off
  exact True.intro
theorem lg_args (a b : Value) : argsOk "list.__getitem__" ⟨[a, b], []⟩ := by unfold argsOk; kernel_rfl
theorem ls_args (a b c : Value) : argsOk "list.__setitem__" ⟨[a, b, c], []⟩ := by unfold argsOk; kernel_rfl
theorem lg_split : splitId "list.__getitem__" = some ("list", "__getitem__") := by decide +kernel
theorem ls_split : splitId "list.__setitem__" = some ("list", "__setitem__") := by decide +kernel
theorem lg_kind : builtinKind "list.__getitem__" = some .method := by decide +kernel
theorem ls_kind : builtinKind "list.__setitem__" = some .slot := by decide +kernel
section
variable {prog : Program} {w : World} {A : Around} {E : Value → Shared → Prop} {s : Shared} {K : Frag} {x C dx : Addr} {vs : List Value} {n : Nat} {od : Obj}
theorem chk_get {a b : Value} (hl : Looks (model prog w) s.heap (isInstance a (.type "list")) true) : ∀ (A : Around) (E : Value → Shared → Prop) (Q : Unit → Shared → Prop), Q () s → wpAny (model prog w) A (checkBuiltinCall "list.__getitem__" ⟨[a, b], []⟩) Q E s := by
  intro A E Q q
  have ha := lg_args a b
  exact @check_meth A E s (model prog w) "list.__getitem__" "list" "__getitem__" a [b] [] Q lg_kind lg_split hl ha q
theorem chk_set {a b c : Value} (hl : Looks (model prog w) s.heap (isInstance a (.type "list")) true) : ∀ (A : Around) (E : Value → Shared → Prop) (Q : Unit → Shared → Prop), Q () s → wpAny (model prog w) A (checkBuiltinCall "list.__setitem__" ⟨[a, b, c], []⟩) Q E s := by
  intro A E Q q
  have ha := ls_args a b c
  exact @check_slot (model prog w) A E s "list.__setitem__" "list" "__setitem__" a [b, c] [] Q ls_kind ls_split hl ha q
theorem acc_special {name : Str} {id : String} {b : Builtin} {args : List Value} {Q : Option Value → Shared → Prop} (X : K.In s.heap) (I : InstAt s.heap x (accObj C dx vs n) C (some od)) (hs : findIn K (.ref C) name = some (some (.builtin id))) (sl : Slot "list" name id)
    (hb : entryFor table id = some b) (hc : ∀ (A : Around) (E : Value → Shared → Prop) (Q : Unit → Shared → Prop), Q () s → wpAny (model prog w) A (checkBuiltinCall id ⟨.ref x :: args, []⟩) Q E s)
    (h : wpAny (model prog w) A.in1 (b ⟨.ref x :: args, []⟩) (fun fin s' => ∃ v, fin = .done (.ret v) ∧ Q (some v) s') E s) : wpAny (model prog w) A (callSpecial? (.ref x) name args) Q E s := by
  unfold callSpecial? specialOf
  refine wpAny_bind (wpAny_bind (I.type.here ((looks_findIn X hs).here (wpAny_holding ?_))))
  rw [sl.bind]
  refine wpAny_bind (wpAny_pure (wpAny_bind (wpAny_call (codeAny_call_builtin sl.plain hb (hc _ _ _ ?_)))))
  refine wpAny_mono h (fun fin s' hf => ?_) fun _ _ e => e
  obtain ⟨v, rfl, hv⟩ := hf
  exact wpAny_pure hv
theorem acc_key {k : Value} {name : Str} {Q : Value → Shared → Prop} (X : K.In s.heap) (I : InstAt s.heap x (accObj C dx vs n) C (some od)) (hq : (seqItemTypes.all fun n => subIn K (.ref C) (.type n) == some false) = true) (h : Q k s) :
    wpAny (model prog w) A (sequenceKey (.ref x) k name) Q E s := by
  unfold sequenceKey
  refine wpAny_bind (I.type.here (wpAny_bind ((anyM_none X hq).here ?_)))
  exact wpAny_pure h
theorem acc_item {k : Int} {u : Tok} {v : Value} {Q : Value → Shared → Prop} (X : K.In s.heap) (I : InstAt s.heap x (accObj C dx vs n) C (some od)) (hs : findIn K (.ref C) "__getitem__" = some (some (.builtin "list.__getitem__")))
    (hq : (seqItemTypes.all fun n => subIn K (.ref C) (.type n) == some false) = true) (hi : mroIn K C (.type "list") = some true) (h0 : 0 ≤ k) (hk : k < 2 ^ 63) (hv : vs[k.toNat]? = some v) (h : Q v s) : wpAny (model prog w) A (getItem (.ref x) (.int k u)) Q E s := by
  have hl : Looks (model prog w) s.heap (isInstance (.ref x) (.type "list")) true := I.type.andThen (looks_mroIn X hi)
  unfold getItem
  try with_reducible refine wpAny_holding ?_
  refine wpAny_bind (acc_key X I hq ?_)
  refine wpAny_bind (acc_special X I hs slot_list_getitem entry_list_getitem (chk_get hl) ?_)
  show wpAny _ _ (Builtin.List.listSubscript? (.int k u) >>= _) _ _ s
  refine wpAny_bind (wpAny_listSubscript_int (fitsIndex_of h0 hk) ?_)
  clear hk
  obtain ⟨j, rfl⟩ := Int.eq_ofNat_of_zero_le h0
  rw [Int.toNat_natCast] at hv
  have hx' : vs.toArray[j]? = some v := by simpa using hv
  have hj : j < vs.toArray.size := (Array.getElem?_eq_some_iff.mp hx').1
  show wpAny _ _ ((seqItemAt x j >>= fun r => pure (r.map (j, ·))) >>= _) _ _ s
  refine wpAny_bind (wpAny_bind (wpAny_seqItemAt I.at_ rfl (wpAny_pure ?_)))
  rw [hx']
  first
    | exact wpAny_bind (wpAny_pure (wpAny_pure ⟨v, rfl, wpAny_pure h⟩))
    | exact wpAny_pure ⟨v, rfl, wpAny_pure h⟩
theorem acc_slice {sl : Addr} {vl vu : Value} {lo hi : Option Int} {Q : Value → Shared → Prop} (X : K.In s.heap) (I : InstAt s.heap x (accObj C dx vs n) C (some od)) (hs : findIn K (.ref C) "__getitem__" = some (some (.builtin "list.__getitem__")))
    (hq : (seqItemTypes.all fun n => subIn K (.ref C) (.type n) == some false) = true) (him : mroIn K C (.type "list") = some true) (hsl : s.heap.IsSliceOf sl vl vu .none) (pl : IsPart vl lo) (pu : IsPart vu hi) (hz : vs.length ≤ 1000)
    (h : Q (.ref s.heap.objs.size) { s with heap := s.heap.push (listObj (kms_pick vs lo hi) 0) }) : wpAny (model prog w) A (getItem (.ref x) (.ref sl)) Q E s := by
  have hl : Looks (model prog w) s.heap (isInstance (.ref x) (.type "list")) true := I.type.andThen (looks_mroIn X him)
  obtain ⟨os, hos, hcs, hds⟩ := id hsl
  have hTs : s.TypeIs (.ref sl) "slice" := ⟨os, hos, hcs⟩
  unfold getItem
  try with_reducible refine wpAny_holding ?_
  refine wpAny_bind (acc_key X I hq ?_)
  refine wpAny_bind (acc_special X I hs slot_list_getitem entry_list_getitem (chk_get hl) ?_)
  show wpAny _ _ (Builtin.List.listSubscript? (.ref sl) >>= _) _ _ s
  refine wpAny_bind ?_
  unfold Builtin.List.listSubscript?
  refine wpAny_bind (wpAny_specialOf hTs slice_no_index ?_)
  simp only [Option.isNone_none, if_true]
  refine wpAny_pure ?_
  show wpAny _ _ (typeOf (.ref sl) >>= _) _ _ s
  refine wpAny_bind (wpAny_typeOf hTs ?_)
  rw [if_neg (by decide), listSliceParts_eq]
  refine wpAny_bind (wpAny_bind (wpAny_field hos hds (x := .none) rfl (wpAny_bind (wpAny_listPart .none ?_))))
  rw [if_neg (show ¬ ((rawPart none == rawInt 0) = true) from Bool.false_ne_true)]
  refine wpAny_bind (wpAny_field hos hds (x := vl) rfl (wpAny_bind (wpAny_listPart pl ?_)))
  refine wpAny_bind (wpAny_field hos hds (x := vu) rfl (wpAny_bind (wpAny_listPart pu (wpAny_pure ?_))))
  refine wpAny_bind (m := Builtin.List.listItems (.ref x)) ?_
  unfold Builtin.List.listItems
  refine wpAny_bind (wpAny_seqItems I.at_ rfl (wpAny_pure ?_))
  refine wpAny_bind (wpAny_of_eq (sliceIndices_raw lo hi none vs.toArray.size (by simp)) ?_)
  have hsz : vs.toArray.size ≤ sizeLine := by rw [sizeLine_eq, List.size_toArray]; omega
  have e := kms_pick_eq vs.toArray lo hi
  rw [List.toList_toArray] at e
  refine wpAny_bind (wpAny_newObj_type (wpAny_pure ⟨_, rfl, wpAny_pure ?_⟩) (Nat.le_trans (slicePick_size_le vs.toArray lo hi none) hsz))
  have h2 : Q (.ref s.heap.objs.size) { s with heap := s.heap.push { cls := .type "list", data := .seq (slicePick vs.toArray lo hi none) } } := by rw [e]; exact h
  exact h2
theorem bounds_from {i n : Nat} (h : i ≤ n) : sliceBounds (some (i : Int)) none none n = ((i : Int), (n : Int), 1) := by
  unfold sliceBounds
  simp
  omega
theorem acc_cut {sl e : Addr} {i ne : Nat} {ti : Tok} {Q : Unit → Shared → Prop} (X : K.In s.heap) (I : InstAt s.heap x (accObj C dx vs n) C (some od)) (hs : findIn K (.ref C) "__setitem__" = some (some (.builtin "list.__setitem__")))
    (hq : (seqItemTypes.all fun n => subIn K (.ref C) (.type n) == some false) = true) (him : mroIn K C (.type "list") = some true) (hsl : s.heap.IsSliceOf sl (.int (i : Nat) ti) .none .none) (he : s.heap.get? e = some (listObj [] ne)) (hxe : x ≠ e) (hi : i ≤ vs.length) (hz : vs.length ≤ 1000)
    (h : ∀ h' n', h'.get? x = some (accObj C dx (vs.take i) n') → Heap.SameBut x s.heap h' → Q () { s with heap := h' }) : wpAny (model prog w) A (setItem (.ref x) (.ref sl) (.ref e)) Q E s := by
  have hl : Looks (model prog w) s.heap (isInstance (.ref x) (.type "list")) true := I.type.andThen (looks_mroIn X him)
  obtain ⟨os, hos, hcs, hds⟩ := id hsl
  have hTs : s.TypeIs (.ref sl) "slice" := ⟨os, hos, hcs⟩
  have hTe : s.TypeIs (.ref e) "list" := ⟨_, he, rfl⟩
  unfold setItem
  try with_reducible refine wpAny_holding ?_
  refine wpAny_bind (acc_key X I hq ?_)
  refine wpAny_bind (acc_special X I hs slot_list_setitem entry_list_setitem (chk_set hl) ?_)
  show wpAny _ _ (Builtin.List.listSubscript? (.ref sl) >>= _) _ _ s
  refine wpAny_bind ?_
  unfold Builtin.List.listSubscript?
  refine wpAny_bind (wpAny_specialOf hTs slice_no_index ?_)
  simp only [Option.isNone_none, if_true]
  refine wpAny_pure ?_
  show wpAny _ _ (typeOf (.ref sl) >>= _) _ _ s
  refine wpAny_bind (wpAny_typeOf hTs ?_)
  rw [if_neg (by decide), listSliceParts_eq]
  refine wpAny_bind (wpAny_bind (wpAny_field hos hds (x := .none) rfl (wpAny_bind (wpAny_listPart .none ?_))))
  rw [if_neg (show ¬ ((rawPart none == rawInt 0) = true) from Bool.false_ne_true)]
  refine wpAny_bind (wpAny_field hos hds (x := .int (i : Nat) ti) rfl (wpAny_bind (wpAny_listPart (.int _ _) ?_)))
  refine wpAny_bind (wpAny_field hos hds (x := .none) rfl (wpAny_bind (wpAny_listPart .none (wpAny_pure ?_))))
  have hsame : Builtin.List.listSameRef (.ref x) (.ref e) = false := by simp [Builtin.List.listSameRef, hxe]
  dsimp -zeta only
  rw [hsame]
  refine wpAny_bind ?_
  unfold Builtin.List.listAllItems
  refine wpAny_bind (wpAny_typeOf hTe ?_)
  refine bm_if_true rfl ?_
  unfold Builtin.List.listItems
  refine wpAny_bind (wpAny_seqItems he rfl (wpAny_pure ?_))
  refine wpAny_bind (wpAny_bind (wpAny_seqItems I.at_ rfl (wpAny_pure ?_)))
  refine wpAny_bind (wpAny_of_eq (sliceIndices_raw (some (i : Int)) none none vs.toArray.size (by simp)) ?_)
  have hb : sliceBounds (some (i : Int)) none none vs.toArray.size = ((i : Int), (vs.length : Int), 1) := by rw [List.size_toArray]; exact bounds_from hi
  rw [hb]
  rw [if_pos (show ((1 : Int) == 1) = true from rfl)]
  refine wpAny_bind (wpAny_rule ?_)
  have hlong : Builtin.List.listTooLong (vs.toArray.size + (#[] : Array Value).size) = false := by
    unfold Builtin.List.listTooLong
    rw [List.size_toArray, sizeLine_eq]
    exact decide_eq_false (by simp; omega)
  rw [if_neg (by rw [hlong]; exact Bool.false_ne_true)]
  refine wpAny_bind ?_
  show wpAny _ _ (updateSeq x _) _ _ _
  have hcut : (vs.toArray.extract 0 i ++ #[] ++ vs.toArray.extract vs.length vs.toArray.size) = (vs.take i).toArray := by
    simp
  have hf : ∀ f : Array Value → Array Value, f vs.toArray = (vs.take i).toArray → ∃ n', Obj.mapSeq f (accObj C dx vs n) = accObj C dx (vs.take i) n' := by
    intro f hf
    refine ⟨if (vs.take i).toArray.size == vs.toArray.size then n else n + 1, ?_⟩
    show (⟨.ref C, some dx, .seq (f vs.toArray) (if (f vs.toArray).size == vs.toArray.size then n else n + 1), #[]⟩ : Obj) = _
    rw [hf]
  have hmax : (max (i : Int) (vs.length : Int)).toNat = vs.length := by omega
  refine wpAny_updateSeq I.at_ rfl ?_ (by rw [sizeLine_eq, List.size_toArray]; omega) (by
    dsimp only
    rw [Int.toNat_natCast, hmax, hcut, sizeLine_eq, List.size_toArray, List.length_take]
    omega)
  dsimp only
  rw [Int.toNat_natCast, hmax]
  obtain ⟨n', he'⟩ := hf (fun xs => xs.extract 0 i ++ #[] ++ xs.extract vs.length xs.size) hcut
  have g := Heap.get?_update_self (Obj.mapSeq (fun xs => xs.extract 0 i ++ #[] ++ xs.extract vs.length xs.size)) I.at_ (by rw [he']; rfl)
  rw [he'] at g
  refine wpAny_bind (wpAny_letGo ?_)
  exact wpAny_pure ⟨.none, rfl, wpAny_pure (h _ n' g (Heap.SameBut.update ..))⟩
end
section
variable {prog : Program} {w : World} {A : Around} {E : Value → Shared → Prop} {s : Shared} {h₀ : Heap} {L : Addr} {m : Str → Option Value} {K : Frag} {x C dx : Addr} {vs : List Value} {n : Nat} {od : Obj} {news : List (Addr × Obj)}
theorem acc_tail {value slice : Expr} {i : Value} {ops : List Value} {id : String} {Q : Value → Shared → Prop} (X : K.In s.heap) (I : InstAt s.heap x (accObj C dx vs n) C (some od)) (hs : findIn K (.ref C) "__getitem__" = some (some (.builtin id)))
    (hg : wpAny (model prog w) A (getItem (.ref x) i) Q E s) (hsub : subscripted slice false (.ref x) i = operate ops (getItem (.ref x) i)) : wpAny (model prog w) A (subscriptTail value slice (.ref x) i) Q E s := by
  unfold subscriptTail
  refine wpAny_bind ?_
  rw [getitemInPython_of_ne (by simp)]
  unfold specialOf
  refine wpAny_bind (wpAny_bind (I.type.here ((looks_findIn X hs).here ?_)))
  have fin : wpAny (model prog w) A (subscripted slice false (.ref x) i) (fun r s₃ => wpAny (model prog w) A (letTemporaryGo value (.ref x) r >>= fun _ => pure r) Q E s₃) E s := by
    rw [hsub]
    exact wpAny_operating (wpAny_mono hg (fun r s₃ h₃ => wpAny_bind (wpAny_letTemporaryGo (wpAny_pure h₃))) fun _ _ x => x)
  first
    | exact wpAny_pure (wpAny_bind fin)
    | exact wpAny_bind (wpAny_pure (wpAny_bind fin))
    | exact wpAny_bind fin
theorem acc_sliceK {value slice : Expr} {vl vu : Value} {lo hi : Option Int} {Q : Value → Shared → Prop} (F : Fr h₀ L s.heap m) (X₀ : K.In h₀) (N : News h₀ L s.heap news) (h1 : (x, accObj C dx vs n) ∈ news) (h2 : (dx, od) ∈ news) (hs : findIn K (.ref C) "__getitem__" = some (some (.builtin "list.__getitem__")))
    (hq : (seqItemTypes.all fun n => subIn K (.ref C) (.type n) == some false) = true) (him : mroIn K C (.type "list") = some true) (pl : IsPart vl lo) (pu : IsPart vu hi) (hz : vs.length ≤ 1000)
    (h : ∀ D h', Fr h₀ L h' m → News h₀ L h' ((D, listObj (kms_pick vs lo hi) 0) :: news) → (∀ p ∈ news, p.1 < D) → Q (.ref D) { s with heap := h' })
    (hsub : subscripted slice false (.ref x) (.ref s.heap.objs.size) = operate [.ref s.heap.objs.size, .ref x] (getItem (.ref x) (.ref s.heap.objs.size)) := by with_unfolding_all rfl) :
    wpAny (model prog w) A (subscriptTail value slice (.ref x) (.ref s.heap.objs.size)) Q E { s with heap := s.heap.push { cls := .type "slice", data := .fields #[vl, vu, .none] } } := by
  have F1 := F.push { cls := .type "slice", data := .fields #[vl, vu, .none] }
  have N1 := N.push F { cls := .type "slice", data := .fields #[vl, vu, .none] }
  have N2 := N1.push F1 (listObj (kms_pick vs lo hi) 0)
  refine acc_tail (X₀.keeps F1.keep) (acc_inst N1 (.tail _ h1) (.tail _ h2)) hs (acc_slice (s := { s with heap := s.heap.push { cls := .type "slice", data := .fields #[vl, vu, .none] } }) (X₀.keeps F1.keep) (acc_inst N1 (.tail _ h1) (.tail _ h2)) hs hq him (Heap.IsSliceOf.new ..) pl pu hz ?_) hsub
  refine h _ _ (F1.push _) (News.sub N2 fun p hp => ?_) fun p hp => ?_
  · rcases List.mem_cons.mp hp with rfl | hp
    · exact .head _
    · exact .tail _ (.tail _ hp)
  · exact Nat.lt_trans (Heap.lt_size (N p hp).1) (by rw [Heap.size_push]; exact Nat.lt_succ_self _)
theorem acc_cutK {e i ne : Nat} {ti : Tok} {rest : List (Addr × Obj)} {Q : Unit → Shared → Prop} (F : Fr h₀ L s.heap m) (X₀ : K.In h₀) (N : News h₀ L s.heap ((x, accObj C dx vs n) :: rest)) (h1 : (e, listObj [] ne) ∈ rest) (h2 : (dx, od) ∈ rest) (ho : ∀ p ∈ rest, p.1 ≠ x) (hs : findIn K (.ref C) "__setitem__" = some (some (.builtin "list.__setitem__")))
    (hq : (seqItemTypes.all fun n => subIn K (.ref C) (.type n) == some false) = true) (him : mroIn K C (.type "list") = some true) (hi : i ≤ vs.length) (hz : vs.length ≤ 1000)
    (h : ∀ h' n', Fr h₀ L h' m → News h₀ L h' ((x, accObj C dx (vs.take i) n') :: rest) → Q () { s with heap := h' }) :
    wpAny (model prog w) A (setItem (.ref x) (.ref s.heap.objs.size) (.ref e)) Q E { s with heap := s.heap.push { cls := .type "slice", data := .fields #[.int (i : Nat) ti, .none, .none] } } := by
  have F1 := F.push { cls := .type "slice", data := .fields #[.int (i : Nat) ti, .none, .none] }
  have N1 : News h₀ L _ ((x, accObj C dx vs n) :: rest) := News.sub (N.push F { cls := .type "slice", data := .fields #[.int (i : Nat) ti, .none, .none] }) fun p hp => .tail _ hp
  refine acc_cut (s := { s with heap := s.heap.push { cls := .type "slice", data := .fields #[.int (i : Nat) ti, .none, .none] } }) (X₀.keeps F1.keep) (acc_inst N1 (.head _) (.tail _ h2)) hs hq him (Heap.IsSliceOf.new ..) (N1 _ (.tail _ h1)).1 (Ne.symm (ho _ h1)) hi hz fun h' n' g sb => ?_
  obtain ⟨F2, N2⟩ := head_upd F1 N1 ho g sb
  exact h h' n' F2 N2
end
theorem pick_from {vs : List Value} {i : Nat} (hi : i ≤ vs.length) : kms_pick vs (some (i : Int)) none = vs.drop i := by
  unfold kms_pick kms_lo kms_hi
  simp only [show ¬ ((i : Int) < 0) by omega, if_false, Int.toNat_natCast]
  rw [Nat.min_eq_left hi, List.take_of_length_le (by rw [List.length_drop]; omega)]
theorem pop_from_does (w : World) (p : Program) (loose : List Str) (mean : PySem.ExcName → Option Value) (mg mb : Str → Option Value) (x dx : Addr) (vs : List Value) (nn : Nat) (kh : Int) (tk0 : Tok) (rest : List (Addr × Obj)) (i : Nat) (ti : Tok) (hlen : vs.length ≤ 1000) (hi : i ≤ vs.length) (hxd : x ≠ dx) (ho : ∀ p ∈ rest, p.1 ≠ x) :
    Does w p loose mean mg mb 85 7 96 [.ref x, .int (i : Nat) ti] [] ((x, accObj 132 dx vs nn) :: (dx, szObj kh tk0) :: rest) (fun r news' => ∃ l n', r = .ref l ∧ news' = (x, accObj 132 dx (vs.take i) n') :: (l, listObj (vs.drop i) 0) :: (dx, szObj kh tk0) :: rest ∧ l ≠ x ∧ l ≠ dx ∧ ∀ p ∈ rest, p.1 ≠ l) := by
  unfold Does
  k_fill
  intro dp un gd cn cs a ccd cl outer A₀ base h₀ L m s Q E B F X T hk hd hu N hret
  refine wpAny_call ?_
  (k_dflt (refine' code_def ?k1 ?k2 ?k3 ?k4 ?k5 ?kA ?kF ?kK ?k6 ?k7 ?k8 ?k9 ?kB ?_ ?c2 ?c3 ?c4 ?c5; (case kA => exact rfl); (case kF => exact rfl); (case kK => assumption); (case k1 => k_asm); (case k2 => k_asm); (case k3 => k_asm); (case k4 => k_asm); (case k5 => k_asm); (case k6 => k_is); (case k7 => k_is); (case k8 => ktr_room); (case k9 => first | exact BindsTo.of_eq rfl | exact binds_K (by k_in) rfl (by k_is) rfl rfl rfl | (refine' kp_binds ?kx ?ke; (case kx => k_in); (case ke => exact fun _ => rfl))); (case c5 => decide); (case kB => exact locs rfl); (case c2 => exact rfl); (case c3 => exact rfl); (case c4 => exact rfl); k_whole; intro _ _ _ _ _ _ _ _ _; (try dsimp only); (try k_fold)))
  (repeat' (first | (k_unfold; (try dsimp only)) | ((((fail_if_success (with_reducible show wpAny _ _ (exec (Stmt.While _ _ _ _) _) _ _ _)); (fail_if_success (with_reducible show wpAny _ _ (exec (Stmt.For _ _ _ _ _) _) _ _ _)); (fail_if_success (with_reducible show wpAny _ _ (pyIter _) _ _ _)))); walk1) | ((((fail_if_success (with_reducible show wpAny _ _ (exec (Stmt.While _ _ _ _) _) _ _ _)); (fail_if_success (with_reducible show wpAny _ _ (exec (Stmt.For _ _ _ _ _) _) _ _ _)); (fail_if_success (with_reducible show wpAny _ _ (pyIter _) _ _ _)))); dsimp only; walk1) | fail "no step"))
  k_dflt (refine acc_sliceK (K := Mine.hd.heap_1 w.params) (C := 132) (dx := dx) (vs := vs) (n := nn) (od := szObj kh tk0) (by k_asm) (by k_asm) (by k_asm) (.head _) (.tail _ (.head _)) (by k_is) (by kernel_rfl) (by k_is) (.int _ _) .none hlen ?_)
  intro D1 h1 F1 N1 l1
  (repeat' (first | (k_unfold; (try dsimp only)) | ((((fail_if_success (with_reducible show wpAny _ _ (exec (Stmt.While _ _ _ _) _) _ _ _)); (fail_if_success (with_reducible show wpAny _ _ (exec (Stmt.For _ _ _ _ _) _) _ _ _)); (fail_if_success (with_reducible show wpAny _ _ (pyIter _) _ _ _)))); walk1) | ((((fail_if_success (with_reducible show wpAny _ _ (exec (Stmt.While _ _ _ _) _) _ _ _)); (fail_if_success (with_reducible show wpAny _ _ (exec (Stmt.For _ _ _ _ _) _) _ _ _)); (fail_if_success (with_reducible show wpAny _ _ (pyIter _) _ _ _)))); dsimp only; walk1) | fail "no step"))
  rename_i l2 h2 F2 N2 l3
  have hxD : x < D1 := l1 _ (.head _)
  have hdD : dx < D1 := l1 _ (.tail _ (.head _))
  have hoD : ∀ p ∈ rest, p.1 < D1 := fun p hp => l1 p (.tail _ (.tail _ hp))
  rw [pick_from hi] at N2
  have N3 : News _ _ h2 ((x, accObj 132 dx vs nn) :: (l2, listObj [] 0) :: (D1, listObj (vs.drop i) 0) :: (dx, szObj kh tk0) :: rest) := News.sub N2 fun p hp => by
    rcases List.mem_cons.mp hp with rfl | hp
    · exact .tail _ (.tail _ (.head _))
    · rcases List.mem_cons.mp hp with rfl | hp
      · exact .head _
      · rcases List.mem_cons.mp hp with rfl | hp
        · exact .tail _ (.head _)
        · exact .tail _ (.tail _ (.tail _ hp))
  clear N2
  have hoff : ∀ p ∈ (l2, listObj [] 0) :: (D1, listObj (vs.drop i) 0) :: (dx, szObj kh tk0) :: rest, p.1 ≠ x := off_cons (Nat.ne_of_gt l3.2.1) (off_cons (Nat.ne_of_gt hxD) (off_cons hxd.symm ho))
  k_dflt (refine acc_cutK (K := Mine.hd.heap_1 w.params) (C := 132) (dx := dx) (vs := vs) (n := nn) (i := i) (od := szObj kh tk0) (by k_asm) (by k_asm) N3 (.head _) (.tail _ (.tail _ (.head _))) hoff (by k_is) (by kernel_rfl) (by k_is) hi hlen fun h4 n4 F4 N4 => ?_)
  (repeat' (first | (k_unfold; (try dsimp only)) | ((((fail_if_success (with_reducible show wpAny _ _ (exec (Stmt.While _ _ _ _) _) _ _ _)); (fail_if_success (with_reducible show wpAny _ _ (exec (Stmt.For _ _ _ _ _) _) _ _ _)); (fail_if_success (with_reducible show wpAny _ _ (pyIter _) _ _ _)))); walk1) | ((((fail_if_success (with_reducible show wpAny _ _ (exec (Stmt.While _ _ _ _) _) _ _ _)); (fail_if_success (with_reducible show wpAny _ _ (exec (Stmt.For _ _ _ _ _) _) _ _ _)); (fail_if_success (with_reducible show wpAny _ _ (pyIter _) _ _ _)))); dsimp only; walk1) | fail "no step"))
  refine hret _ _ _ _ (by assumption) (News.sub (l' := (x, accObj 132 dx (vs.take i) n4) :: (D1, listObj (vs.drop i) 0) :: (dx, szObj kh tk0) :: rest) (by assumption) fun p hp => ?_) ⟨D1, n4, rfl, rfl, Nat.ne_of_gt hxD, Nat.ne_of_gt hdD, fun p hp => Nat.ne_of_lt (hoD p hp)⟩
  rcases List.mem_cons.mp hp with rfl | hp
  · exact .head _
  · exact .tail _ (.tail _ hp)
theorem anew_FR : True := by
  w_top off
  exact True.intro
section
variable {prog : Program} {w : World} {A : Around} {s : Shared} {env : Env} {h₀ : Heap} {x : Str} {body : List Stmt} {Q : Flow → Shared → Prop}
/-- A loop over a list of the ledger, in the own logic. -/
theorem ForR_list {m₀ : Str → Option Value} {px pos ppos : Pos} {l : Addr} {vs : List Value} {nn : Nat} {news : List (Addr × Obj)} {ln : Str} (J : Nat → (Str → Option Value) → List (Addr × Obj) → Prop)
    (hh : A.handled = none) (F : Fr h₀ env.locals s.heap m₀) (N : News h₀ env.locals s.heap news) (hj : J 0 m₀ news) (hl : ∀ i m₁ news₁, J i m₁ news₁ → (l, listObj vs nn) ∈ news₁)
    (turn : ∀ i v m₁ news₁ h tk I oI, vs[i]? = some v → J i m₁ news₁ → (∀ p ∈ news₁, p.1 ≠ I) → Fr h₀ env.locals h (fun y => if y = x then some v else m₁ y) → News h₀ env.locals h ((I, oI) :: news₁) →
      wpR (model prog w) A (execs body env) (TurnEnd h₀ env.locals (J (i + 1)) I oI { s with heap := h, toks := tk } Q) { s with heap := h, toks := tk })
    (done : ∀ m₁ news₁ h tk, J vs.length m₁ news₁ → Fr h₀ env.locals h m₁ → News h₀ env.locals h news₁ → Q .next { s with heap := h, toks := tk })
    (hln : m₀ ln = some (.ref l)) (hx : env.kindOf x = some .local := by rfl) (hlk : env.kindOf ln = some .local := by rfl) (hk : env.scope.kind = .function := by rfl)
    (hd : (ln == ("__debug__" : Str)) = false := by decide) :
    wpR (model prog w) A (exec (.For (.Name x px) (.Name ln ppos) body [] pos) env) Q s := by
  have hlm := hl 0 _ _ hj
  have hls : s.heap.IsList l vs.toArray := News.isList N hlm
  refine ForR (wpAny_Name (wpAny_loadName_local hk hlk F.ns hln (wpAny_pyIter_list hls ?_)) hd)
  have F0 := F.push { cls := .type "list_iterator", data := .fields #[.ref l, .int 0 0] }
  have N0 := N.push F { cls := .type "list_iterator", data := .fields #[.ref l, .int 0 0] }
  have off0 : ∀ p ∈ news, p.1 ≠ s.heap.objs.size := fun p hp => Nat.ne_of_lt (Heap.lt_size (N p hp).1)
  generalize hI : s.heap.objs.size = I at N0 off0
  refine codeR_forLoop (fun k s' => ∃ i h' tk m' news' oI, k = vs.length + 1 - i ∧ i ≤ vs.length ∧ s' = { s with heap := h', toks := tk } ∧ Fr h₀ env.locals h' m' ∧ News h₀ env.locals h' ((I, oI) :: news') ∧ (∀ p ∈ news', p.1 ≠ I) ∧ h'.IsListIter I l i ∧ J i m' news') ?_ (vs.length + 1)
    ⟨0, _, s.toks, m₀, news, _, rfl, Nat.zero_le _, rfl, F0, N0, off0, ⟨_, (N0 _ (.head _)).1, rfl, rfl⟩, hj⟩
  rintro k s' ⟨i, h', tk, m', news', oI, rfl, hi, rfl, F', N', off', hit, hJ⟩
  have hls' : h'.IsList l vs.toArray := News.isList N' (.tail _ (hl _ _ _ hJ))
  have hLI : I ≠ env.locals := (N' _ (.head _)).2.1
  have hnI : h₀.get? I = none := (N' _ (.head _)).2.2
  by_cases hlt : i < vs.length
  · obtain ⟨v, hv⟩ : ∃ v, vs[i]? = some v := ⟨_, List.getElem?_eq_getElem hlt⟩
    refine wpAny_pyNext_list_item (x := v) hit hls' (by simpa using hv) fun h1 hit1 sb1 => ?_
    obtain ⟨oI1, g1, c1, d1⟩ := id hit1
    obtain ⟨F1, N1⟩ := head_upd F' N' off' g1 sb1
    refine wpAny_assign_Name (wpAny_storeName_local hx F1.ns (fun h2 hn2 hs2 => ?_) (by rw [hk]; rfl))
    have F2 := F1.set hn2 hs2
    have N2 := N1.set hs2
    refine wpR_mono (turn i v m' news' h2 _ I oI1 hv hJ off' F2 N2) fun f s₂ p => ?_
    have fin : (∃ h' tk m'' news'', s₂ = { s with heap := h', toks := tk } ∧ Fr h₀ env.locals h' m'' ∧ News h₀ env.locals h' ((I, oI1) :: news'') ∧ (∀ p ∈ news'', p.1 ≠ I) ∧ J (i + 1) m'' news'') →
        ∃ mm, mm < vs.length + 1 - i ∧ ∃ i' h' tk m' news' oI, mm = vs.length + 1 - i' ∧ i' ≤ vs.length ∧ s₂ = { s with heap := h', toks := tk } ∧ Fr h₀ env.locals h' m' ∧ News h₀ env.locals h' ((I, oI) :: news') ∧ (∀ p ∈ news', p.1 ≠ I) ∧ h'.IsListIter I l i' ∧ J i' m' news' := by
      rintro ⟨h3, tk3, m3, news3, e3, F3, N3, o3, j3⟩
      exact ⟨vs.length + 1 - (i + 1), by omega, i + 1, h3, tk3, m3, news3, oI1, rfl, hlt, e3, F3, N3, o3, ⟨oI1, (N3 _ (.head _)).1, c1, d1⟩, j3⟩
    cases f with
    | ret v => exact p
    | brk => exact p
    | next => exact fin p
    | cont => exact fin p
  · obtain rfl : i = vs.length := by omega
    refine wpAny_pyNext_list_end hh hit hls' (by simp) fun h1 eb => ?_
    refine done m' news' h1 _ hJ ⟨F'.ns.at' fun o e => eb _ o (Ne.symm hLI) e, fun b o e => eb b o (fun q => by rw [q, hnI] at e; cases e) (F'.keep b o e), F'.above⟩ fun p hp => ?_
    exact ⟨eb _ _ (off' p hp) (N' p (.tail _ hp)).1, (N' p (.tail _ hp)).2⟩
end
theorem anew_B5 : True := by
  w_top off
  exact True.intro
theorem callDef1A {M : Model} {A : Around} {E : Value → Shared → Prop} {s : Shared} {pos : Pos} {a : Addr} {o : Obj} {fd : FuncData} {x : Sem Value} {Q : Value → Shared → Prop}
    (h : wpAny M A x (fun v s₁ => (s₁.heap.get? a = some o ∧ o.data = .func fd) ∧ wpAny M A (call (.ref a) [v] []) Q E s₁) E s) : wpAny M A (callWith pos (.ref a) [] [(false, x)] []) Q E s :=
  callWith_function (evalArgs_plain (spliced_cons (wpAny_mono h (fun _ _ q => spliced_nil q) fun _ _ q => q)))
/-- bisect_right over the stack, the key a def of the ledger that tells a tuple's writing. -/
theorem bisect_stack_does (w : World) (p : Program) (loose : List Str) (mean : PySem.ExcName → Option Value) (mg mb : Str → Option Value) (x dx f : Addr) (sv : List Value) (S : List Nat) (sn : Nat) (kh : Int) (tk0 : Tok) (fo : Obj) (fd : FuncData) (rest : List (Addr × Obj)) (y : Nat) (ty t0 th' : Tok) (hy : y < 9)
    (hS9 : ∀ (i k : Nat), S[i]? = some k → k < 9) (hlenS : sv.length = S.length) (hs : S.Pairwise (· ≥ ·)) (hlen : S.length ≤ 1000) (hfo : fo.data = .func fd)
    (hkey : ∀ (i k : Nat) (v : Value), S[i]? = some k → sv[i]? = some v → Does w p loose mean mg mb f 2 16 [v] [] ((x, accObj 132 dx sv sn) :: (dx, szObj kh tk0) :: (f, fo) :: rest) (fun r news' => ∃ t, r = .str (escS (th k)) t ∧ news' = (x, accObj 132 dx sv sn) :: (dx, szObj kh tk0) :: (f, fo) :: rest)) :
    Does w p loose mean mg mb 53 4 48 [.ref x, .str (escS (th y)) ty, .int 0 t0, .int (S.length : Nat) th'] [(Str.ofString "key", .ref f)] ((x, accObj 132 dx sv sn) :: (dx, szObj kh tk0) :: (f, fo) :: rest) (fun r news' => ∃ t, r = .int (S.countP (fun k => decide (y ≤ k)) : Nat) t ∧ news' = (x, accObj 132 dx sv sn) :: (dx, szObj kh tk0) :: (f, fo) :: rest) := by
  unfold Does
  k_fill
  intro dp un gd cn cs a ccd cl outer A₀ base h₀ L m s Q E B F X T hk hd hu N hret
  refine wpAny_call ?_
  (k_dflt (refine' code_def ?k1 ?k2 ?k3 ?k4 ?k5 ?kA ?kF ?kK ?k6 ?k7 ?k8 ?k9 ?kB ?_ ?c2 ?c3 ?c4 ?c5; (case kA => exact rfl); (case kF => exact rfl); (case kK => assumption); (case k1 => k_asm); (case k2 => k_asm); (case k3 => k_asm); (case k4 => k_asm); (case k5 => k_asm); (case k6 => k_is); (case k7 => k_is); (case k8 => ktr_room); (case k9 => first | exact BindsTo.of_eq rfl | exact binds_K (by k_in) rfl (by k_is) rfl rfl rfl | (refine' kp_binds ?kx ?ke; (case kx => k_in); (case ke => exact fun _ => rfl))); (case c5 => decide); (case kB => exact locs rfl); (case c2 => exact rfl); (case c3 => exact rfl); (case c4 => exact rfl); k_whole; intro _ _ _ _ _ _ _ _ _; (try dsimp only); (try k_fold)))
  (repeat' (first | (k_unfold; (try dsimp only)) | ((((fail_if_success (with_reducible show wpAny _ _ (exec (Stmt.While _ _ _ _) _) _ _ _)); (fail_if_success (with_reducible show wpAny _ _ (exec (Stmt.For _ _ _ _ _) _) _ _ _)); (fail_if_success (with_reducible show wpAny _ _ (pyIter _) _ _ _)))); walk1) | ((((fail_if_success (with_reducible show wpAny _ _ (exec (Stmt.While _ _ _ _) _) _ _ _)); (fail_if_success (with_reducible show wpAny _ _ (exec (Stmt.For _ _ _ _ _) _) _ _ _)); (fail_if_success (with_reducible show wpAny _ _ (pyIter _) _ _ _)))); dsimp only; walk1) | fail "no step"))
  refine While_inv (n₀ := S.length) (BJk x y ty (.ref f) (fun k => decide (y ≤ k)) S ((x, accObj 132 dx sv sn) :: (dx, szObj kh tk0) :: (f, fo) :: rest)) (by k_asm) (by k_asm) ⟨0, S.length, _, _, by walk_at "m_look", by walk_at "m_look", by walk_at "m_look", by walk_at "m_look", by walk_at "m_look", rfl, BSpan.start, rfl⟩ ?_
  rintro n m₁ news₁ h₁ tk₁ F₁ N₁ ⟨lo, hi, tlo, thi, ha, hxx, hkey', hlo, hhi, rfl, hsp, hn⟩
  (repeat' (first | (k_unfold; (try dsimp only)) | ((((fail_if_success (with_reducible show wpAny _ _ (exec (Stmt.While _ _ _ _) _) _ _ _)); (fail_if_success (with_reducible show wpAny _ _ (exec (Stmt.For _ _ _ _ _) _) _ _ _)); (fail_if_success (with_reducible show wpAny _ _ (pyIter _) _ _ _)))); walk1) | ((((fail_if_success (with_reducible show wpAny _ _ (exec (Stmt.While _ _ _ _) _) _ _ _)); (fail_if_success (with_reducible show wpAny _ _ (exec (Stmt.For _ _ _ _ _) _) _ _ _)); (fail_if_success (with_reducible show wpAny _ _ (pyIter _) _ _ _)))); dsimp only; walk1) | fail "no step"))
  · obtain ⟨mid, hmid, h1, h2⟩ := mid_is (lo := lo) (hi := hi) (by omega)
    simp only [hmid] at *
    have hle := hsp.2.1
    obtain ⟨k, hk'⟩ : ∃ k, S[mid]? = some k := ⟨_, List.getElem?_eq_getElem (by omega)⟩
    obtain ⟨v, hv⟩ : ∃ v, sv[mid]? = some v := ⟨_, List.getElem?_eq_getElem (by omega)⟩
    have hk9 := hS9 mid k hk'
    refine callDef1A (o := fo) (fd := fd) ?_
    rw [if_neg Bool.false_ne_true]
    rename Frag.In _ _ => X1
    rename Fr _ _ _ _ => F3
    rename News _ _ _ _ => N3
    (repeat' (first | (k_unfold; (try dsimp only)) | ((((fail_if_success (with_reducible show wpAny _ _ (exec (Stmt.While _ _ _ _) _) _ _ _)); (fail_if_success (with_reducible show wpAny _ _ (exec (Stmt.For _ _ _ _ _) _) _ _ _)); (fail_if_success (with_reducible show wpAny _ _ (pyIter _) _ _ _)))); walk1) | ((((fail_if_success (with_reducible show wpAny _ _ (exec (Stmt.While _ _ _ _) _) _ _ _)); (fail_if_success (with_reducible show wpAny _ _ (exec (Stmt.For _ _ _ _ _) _) _ _ _)); (fail_if_success (with_reducible show wpAny _ _ (pyIter _) _ _ _)))); dsimp only; walk1) | fail "no step"))
    have XK : (Mine.hd.heap_1 w.params).In _ := X1.keeps F3.keep
    refine acc_tail (K := Mine.hd.heap_1 w.params) (C := 132) (dx := dx) (vs := sv) (n := sn) (od := szObj kh tk0) XK (acc_inst N3 (.head _) (.tail _ (.head _))) (by k_is) (acc_item XK (acc_inst N3 (.head _) (.tail _ (.head _))) (by k_is) (by kernel_rfl) (by k_is) (by omega) (by omega) (v := v) (by rw [Int.toNat_natCast]; exact hv) ?_) (by with_unfolding_all rfl)
    refine ⟨⟨(N3 _ (.tail _ (.tail _ (.head _)))).1, hfo⟩, ?_⟩
    k_dflt (refine' Does.use (hkey mid k v hk' hv) ?k1 ?k2 ?k3 ?k4 ?kK ?kd ?ku ?kN ?_; (case k1 => k_asm); (case k2 => k_asm); (case k3 => k_asm); (case k4 => k_asm); (case kN => k_asm); (case kK => first | exact rfl | assumption); (case kd => ktr_room); (case ku => ktr_units))
    rintro r5 news5 h5 tk5 F5 N5 ⟨t5, rfl, rfl⟩
    (repeat' (first | (k_unfold; (try dsimp only)) | ((((fail_if_success (with_reducible show wpAny _ _ (exec (Stmt.While _ _ _ _) _) _ _ _)); (fail_if_success (with_reducible show wpAny _ _ (exec (Stmt.For _ _ _ _ _) _) _ _ _)); (fail_if_success (with_reducible show wpAny _ _ (pyIter _) _ _ _)))); walk1) | ((((fail_if_success (with_reducible show wpAny _ _ (exec (Stmt.While _ _ _ _) _) _ _ _)); (fail_if_success (with_reducible show wpAny _ _ (exec (Stmt.For _ _ _ _ _) _) _ _ _)); (fail_if_success (with_reducible show wpAny _ _ (pyIter _) _ _ _)))); dsimp only; walk1) | fail "no step"))
    · refine WhileStep.intro (by k_asm) (by k_asm) ?_ ⟨lo, mid, _, _, by walk_at "m_look", by walk_at "m_look", by walk_at "m_look", by walk_at "m_look", by walk_at "m_look", rfl, hsp.left (falls_ge hs) h1 h2 hk' (decide_eq_false (by omega)), rfl⟩
      omega
    · refine WhileStep.intro (by k_asm) (by k_asm) ?_ ⟨mid + 1, hi, _, _, by walk_at "m_look", by walk_at "m_look", by walk_at "m_look", by walk_at "m_look", by walk_at "m_look", rfl, hsp.right (falls_ge hs) h1 h2 hk' (decide_eq_true (by omega)), rfl⟩
      omega
  · exact hret _ _ _ _ (by assumption) (by assumption) ⟨_, int_eq (hsp.count (by omega)).symm, rfl⟩
theorem anew_DC : True := by
  w_top off
  exact True.intro
section
variable {prog : Program} {w : World} {A₀ A : Around} {s : Shared} {base h₀ : Heap} {outer : List Env} {L : Addr} {m : Str → Option Value} {news : List (Addr × Obj)} {K : Frag} {p : Program} {loose : List Str} {mean : PySem.ExcName → Option Value} {mg mb : Str → Option Value}
/-- The entry of a def that has cells, in the own logic. -/
theorem code_defCR {env : Env} {R : Value → Shared → Prop} {name qual : Str} {params : Arguments} {body : List Stmt} {scope : Scope} {dV kV doc pm cdv ct oc : Value} {an od : Option Addr} {osl : Array (Option Value)} {f : Addr} {args : Args} {binds : List (Str × Value)}
    (B : Below A₀ base outer h₀) (F : Fr h₀ L s.heap m) (X₀ : K.In h₀) (N : News h₀ L s.heap news) (T : Top p loose mean mg mb h₀) (hA : A.frames = some (env :: outer)) (hf : env.frame = some L) (hke : env.scope.kind = .function)
    (ho : K.lookup f = some ⟨oc, od, .func (fnOf name qual params body scope dV kV doc pm an cdv ct), osl⟩) (hcd : codeIn K cdv qual = true) (hroom : A.depth < recursionLimit)
    (hbind : BindsTo s (fnOf name qual params body scope dV kV doc pm an cdv ct) args binds) (hkind : (binds.all fun y => scope.names.lookup y.1 == some .local || scope.names.lookup y.1 == some .cell) = true)
    (hnd : ((cellsFrom 0 scope.names []).map (·.1)).Nodup)
    (h : ∀ g L' h₁ tk cells, Fr h₀ L g m → Fr g L' h₁ (bindL (envOfC qual scope L' f cdv).kindOf binds fun _ => none) → News g L' h₁ (cells ++ news) →
      CellsAre (bindC (envOfC qual scope L' f cdv).kindOf binds fun _ => none) (cellsFrom (L' + 1) scope.names []) cells → Below A base (env :: outer) g → K.In g → Top p loose mean mg mb g → (∀ p ∈ news, p.1 < L') →
      wpR (model prog w) (A.deeper (envOfC qual scope L' f cdv)) (execs body (envOfC qual scope L' f cdv))
        (fun fl s' => LeaveK h₀ L m g (OkRet R) (match fl with | .ret v => v | _ => .none) s') { s with heap := h₁, toks := tk })
    (hco : scope.isCoroutine = false) (hgen : scope.isGenerator = false) (hk : scope.kind = .function) : codeR (model prog w) A (.call (.ref f) args) (fun fl s' => ∃ v, fl = .ret v ∧ R v s') s := by
  obtain ⟨FG, BG, st, lv⟩ := groundX (R := OkRet R) B F N hA hf hke
  refine codeR_call_function hroom ((X₀.keeps F.keep) _ _ ho) rfl hco hgen rfl (codeRec_of (X₀.keeps F.keep) hcd) (hbind _ _ _ _ ?_)
  refine wpAny_newFunctionEnv_cells hk (kindsX hkind _) fun env' he s' x => ?_
  subst he
  refine ⟨(T.nolimit.keeps F.keep).keeps x.toInCall.keep, codeR_func ?_⟩
  obtain ⟨h₁, tk, rfl, _⟩ := x.done
  have hk₁ := x.toInCall.keep
  obtain ⟨cells, NC, Y⟩ := Cl.news (h₀ := s.heap) (Nat.le_refl _) fun n c hm => ⟨x.cell n c (lookup_of_mem_nodup (cellsFrom_names scope.names 0 (s.heap.objs.size + 1) [] [] rfl ▸ hnd) hm), x.above n c hm⟩
  have fin : ∀ (fl : Flow) (s' : Shared), LeaveK h₀ L m (hideAll s.heap (news.map (·.1))) (OkRet R) (match fl with | .ret v => v | _ => .none) s' → ∃ v, Flow.ret (match fl with | .ret v => v | _ => .none) = .ret v ∧ R v s' := fun fl s' hl => by
    obtain ⟨v, e, hv⟩ := lv _ _ hl
    injection e with e
    injection e with e
    subst e
    exact ⟨_, rfl, hv⟩
  refine wpR_mono (h _ s.heap.objs.size h₁ tk cells FG ⟨x.toInCall.ns, fun b o e => hk₁ b o (of_hideAll _ e), Nat.le_of_eq (hideAll_size _ _)⟩ (fun p hp => ?_) Y BG (X₀.keeps st) (T.keeps st) (fun p hp => Heap.lt_size (N p hp).1)) fin
  rcases List.mem_append.mp hp with hp | hp
  · refine ⟨(NC p hp).1, (NC p hp).2.1, ?_⟩
    cases q : (hideAll s.heap (news.map (·.1))).get? p.1 with
    | none => rfl
    | some o => have := of_hideAll _ q; rw [(NC p hp).2.2] at this; cases this
  · exact ⟨hk₁ _ _ (N p hp).1, Nat.ne_of_lt (Heap.lt_size (N p hp).1), hideAll_none _ (List.mem_map_of_mem hp)⟩
end
theorem anew_CL : True := by
  w_top off
  exact True.intro
section
variable {prog : Program} {w : World} {A : Around} {E : Value → Shared → Prop} {s : Shared} {h₀ : Heap} {L : Addr} {m : Str → Option Value} {news : List (Addr × Obj)} {env : Env} {scope : Scope} {x : Str} {elt : Expr}
theorem paired_all {α : Type} {F : Value → α → Prop} {vs ws : List Value} {ys : List α} (hl : ws.length = vs.length) (h : ∀ (j : Nat) (v : Value), ws[j]? = some v → vs[j]? = some v) (hp : Paired F (ws.filter fun _ => true) ys) : Paired F vs ys := by
  have e : ws = vs := List.ext_getElem? fun j => by
    cases hw : ws[j]? with
    | some v => exact (h j v hw).symm
    | none =>
      have := List.getElem?_eq_none_iff.mp hw
      exact (List.getElem?_eq_none (by omega)).symm
  rw [filter_tt, e] at hp
  exact hp
/-- A comprehension over a list of the ledger whose elements make no lasting thing. -/
theorem comp_L {l : Addr} {vs : List Value} {nn : Nat} {Fv : Value → Value → Prop} {Q : Value → Shared → Prop} (hh : A.handled = none) (F : Fr h₀ L s.heap m) (N : News h₀ L s.heap news) (hm : (l, listObj vs nn) ∈ news) (hz : vs.length ≤ 1000)
    (he : ∀ C (i : Nat) (v : Value) (s₃ : Shared) m₃ E', vs[i]? = some v → s₃.heap.Ns C m₃ → m₃ x = some v → (∀ b o, s.heap.get? b = some o → s₃.heap.get? b = some o) → s.toks ≤ s₃.toks → wpAny (model prog w) A (eval elt (compEnv scope C env)) (fun y s₄ => Fv v y ∧ Keeps s₃ s₄) E' s₃)
    (h : ∀ D ys n' h' tk, Paired Fv vs ys → Fr h₀ L h' m → News h₀ L h' ((D, listObj ys n') :: news) → (∀ p ∈ news, p.1 ≠ D) → Q (.ref D) { s with heap := h', toks := tk }) :
    wpAny (model prog w) A (pyIter (.ref l)) (CompPost prog w A env scope x [] elt Q) E s := by
  have hls : s.heap.IsList l vs.toArray := News.isList N hm
  have hlt : l < s.heap.objs.size := Heap.lt_size (N _ hm).1
  have hne : l ≠ s.heap.objs.size := Nat.ne_of_lt hlt
  refine wpAny_pyIter_list hls ?_
  have W := Walks.list (prog := prog) (w := w) hh s.heap.objs.size l hne vs.toArray
  have hlen : vs.toArray.size = vs.length := List.size_toArray
  rw [hlen] at W
  refine ⟨fun _ => true, Fv, _, _, _, vs.length, _, _, rfl, W, by rw [sizeLine_eq]; omega, ⟨⟨_, Heap.get?_push_size _ rfl, rfl, rfl⟩, hls.at fun o e => Heap.get?_push_of_some _ e⟩, fun b hb => ?_, ⟨fun C i v s₃ m₃ E' _ _ _ _ _ => ?_, fun C i v s₃ m₃ E' hP _ hn hx hk ht => ?_⟩, ?_⟩
  · have hb' : b ∈ [s.heap.objs.size, l] ∨ b ∈ [s.heap.objs.size] := by first | exact .inl hb | exact .inr hb
    rw [Heap.size_push]
    rcases hb' with hb' | hb'
    · rcases List.mem_cons.mp hb' with rfl | hb'
      · exact Nat.lt_succ_self _
      · rw [List.mem_singleton.mp hb']; exact Nat.lt_succ_of_lt hlt
    · rw [List.mem_singleton.mp hb']; exact Nat.lt_succ_self _
  · rw [List.forIn_nil]
    exact wpAny_pure ⟨rfl, ⟨_, _, rfl, fun _ _ e => e⟩⟩
  · have hv : vs[i]? = some v := by simpa using hP
    refine he C i v s₃ m₃ E' hv hn hx (fun b o e => ?_) ht
    refine hk b o ?_ (Heap.get?_push_of_some _ e)
    intro q
    rw [List.mem_singleton.mp q] at e
    exact absurd (Heap.lt_size e) (Nat.lt_irrefl _)
  · intro D h' tk ys ws hD _ hpl hwl hwp hpair hkeep
    obtain ⟨n', hDo⟩ := hpl
    have hP := paired_all hwl (fun j v e => by have := hwp j v e; simpa using this) hpair
    have k2 : ∀ b o, s.heap.get? b = some o → h'.get? b = some o := fun b o e => hkeep b o (fun q => by
      rw [List.mem_singleton.mp q] at e
      exact absurd (Heap.lt_size e) (Nat.lt_irrefl _)) (Heap.get?_push_of_some _ e)
    have hD0 : s.heap.get? D = none := by
      cases q : s.heap.get? D with
      | none => rfl
      | some o => have := Heap.get?_push_of_some { cls := .type "list_iterator", data := .fields #[.ref l, .int 0 0] } q; rw [hD] at this; cases this
    have hnD : ∀ b o, s.heap.get? b = some o → b ≠ D := fun b o e q => by rw [q, hD0] at e; cases e
    obtain ⟨oL, es, ep, hL, r⟩ := F.ns
    refine h D ys.toList n' h' tk hP ⟨⟨oL, es, ep, k2 _ _ hL, r⟩, fun b o e => k2 b o (F.keep b o e), F.above⟩ (fun p hp => ?_) fun p hp => hnD _ _ (N p hp).1
    rcases List.mem_cons.mp hp with rfl | hp
    · refine ⟨by rw [hDo, Array.toArray_toList], (hnD _ _ hL).symm, ?_⟩
      cases q : h₀.get? D with
      | none => rfl
      | some o => rw [F.keep _ _ q] at hD0; cases hD0
    · exact ⟨k2 _ _ (N p hp).1, (N p hp).2⟩
end
theorem ThAre.strs {vs : List Value} {ns : List Nat} (h : ThAre vs ns) : StrsAre vs (ns.map th) := by
  induction h with
  | nil => exact .nil
  | cons n t _ _ ih => exact .cons _ _ ih
theorem anew_Tu : True := by
  w_top off
  exact True.intro
/-- The tuples on the stack tell the ranks. -/
def TupsAre (sv : List Value) (S : List Nat) (tl : List (Addr × Obj)) : Prop := sv.length = S.length ∧ ∀ (i y : Nat), S[i]? = some y → y < 9 ∧ ∃ D tf ty, sv[i]? = some (Value.ref D) ∧ (D, tupObj [Value.str "" tf, Value.str (th y) ty]) ∈ tl
/-- A piece's second part. -/
def Piece (tl : List (Addr × Obj)) (v u : Value) : Prop := ∃ D tf ty y, y < 9 ∧ v = .ref D ∧ (D, tupObj [Value.str "" tf, Value.str (th y) ty]) ∈ tl ∧ u = .str (th y) ty
theorem TupsAre.drop {sv : List Value} {S : List Nat} {tl : List (Addr × Obj)} (h : TupsAre sv S tl) (k : Nat) : TupsAre (sv.drop k) (S.drop k) tl := by
  refine ⟨by rw [List.length_drop, List.length_drop, h.1], fun i y hy => ?_⟩
  rw [List.getElem?_drop] at hy ⊢
  exact h.2 _ _ hy
theorem TupsAre.take {sv : List Value} {S : List Nat} {tl : List (Addr × Obj)} (h : TupsAre sv S tl) (k : Nat) : TupsAre (sv.take k) (S.take k) tl := by
  refine ⟨by rw [List.length_take, List.length_take, h.1], fun i y hy => ?_⟩
  rw [List.getElem?_take] at hy ⊢
  split at hy
  · rename_i hik
    rw [if_pos hik]
    exact h.2 _ _ hy
  · cases hy
theorem TupsAre.mono {sv : List Value} {S : List Nat} {tl tl' : List (Addr × Obj)} (h : TupsAre sv S tl) (hs : ∀ p ∈ tl, p ∈ tl') : TupsAre sv S tl' :=
  ⟨h.1, fun i y hy => let ⟨a, D, tf, ty, b, c⟩ := h.2 i y hy; ⟨a, D, tf, ty, b, hs _ c⟩⟩
theorem TupsAre.snoc {sv : List Value} {S : List Nat} {tl : List (Addr × Obj)} {D : Addr} {y : Nat} {tf ty : Tok} (h : TupsAre sv S tl) (hy : y < 9) (hm : (D, tupObj [Value.str "" tf, Value.str (th y) ty]) ∈ tl) : TupsAre (sv ++ [.ref D]) (S ++ [y]) tl := by
  refine ⟨by simp [h.1], fun i z hz => ?_⟩
  by_cases hi : i < S.length
  · rw [List.getElem?_append_left hi] at hz
    rw [List.getElem?_append_left (by rw [h.1]; exact hi)]
    exact h.2 i z hz
  · rw [List.getElem?_append_right (by omega)] at hz
    rw [List.getElem?_append_right (by rw [h.1]; omega), h.1]
    have hz0 : i - S.length = 0 := by
      have := (List.getElem?_eq_some_iff.mp hz).1
      simp at this
      omega
    rw [hz0] at hz ⊢
    simp at hz
    subst hz
    exact ⟨hy, D, tf, ty, rfl, hm⟩
theorem things_of {tl : List (Addr × Obj)} (hu : ∀ D o o', (D, o) ∈ tl → (D, o') ∈ tl → o = o') {sv ys : List Value} {S : List Nat} (h : TupsAre sv S tl) (p : Paired (Piece tl) sv ys) : ThAre ys S := by
  induction p generalizing S with
  | nil =>
    cases S with
    | nil => exact .nil
    | cons y S => have := h.1; simp at this
  | @cons v u _ _ hp r ih =>
    cases S with
    | nil => have := h.1; simp at this
    | cons y S =>
      obtain ⟨D, tf, ty, z, hz, rfl, hm, rfl⟩ := hp
      obtain ⟨hy, D', tf', ty', e, hm'⟩ := h.2 0 y rfl
      simp at e
      subst e
      have e2 := hu _ _ _ hm hm'
      have e3 := congrArg Obj.data e2
      simp at e3
      obtain rfl := th_inj z hz y hy (by first | exact e3.2.1 | exact e3.1.2.1 | exact e3.2)
      exact .cons z ty hz (ih (by simpa using h.drop 1))
theorem anew_Enc : True := by
  w_top off
  exact True.intro
section
open Builtin Builtin._codecs
theorem fe_two {σ : Type} {n : Nat} {s0 s1 : σ} {f : Nat → σ → Sem (ForInStep σ)} (hn : 0 < n) (h0 : ∀ i, f i s0 = pure (.yield s1)) (h1 : ∀ i, f i s1 = pure (.done s1)) : (forIn [0:n] s0 f : Sem σ) = pure s1 := by
  rw [Std.Legacy.Range.forIn_eq_forIn_range']
  have e : Std.Legacy.Range.size [0:n] = n := by simp [Std.Legacy.Range.size]
  rw [e]
  obtain ⟨n, rfl⟩ : ∃ k, n = k + 1 := ⟨n - 1, by omega⟩
  rw [List.range'_succ, List.forIn_cons, h0]
  show (forIn (List.range' _ n 1) s1 f : Sem σ) = _
  cases n with
  | zero => rfl
  | succ n =>
    rw [List.range'_succ, List.forIn_cons, h1]
    rfl
theorem sem_bind {α β : Type} {m : Sem α} {f : α → Sem β} {a : α} {r : Sem β} (h : m = pure a) (h2 : f a = r) : (m >>= f) = r := by subst h; exact h2
theorem sem_if_f {α : Type} {c : Prop} [Decidable c] {a b r : Sem α} (hc : ¬ c) (h : b = r) : (if c then a else b) = r := by rw [if_neg hc]; exact h
theorem sem_if_t {α : Type} {c : Prop} [Decidable c] {a b r : Sem α} (hc : c) (h : a = r) : (if c then a else b) = r := by rw [if_pos hc]; exact h
theorem enc_fold (a : Array Nat) : a.foldl (fun acc y => acc ++ (asciiCodec.bytesOf y).toArray) #[] = a.map (·.toUInt8) := by
  obtain ⟨l⟩ := a
  have key : ∀ (l : List Nat) (acc : Array UInt8), l.foldl (fun acc y => acc ++ (asciiCodec.bytesOf y).toArray) acc = acc ++ (l.map (·.toUInt8)).toArray := by
    intro l
    induction l with
    | nil => intro acc; simp
    | cons y l ih => intro acc; rw [List.foldl_cons, ih]; simp [asciiCodec]
  simp [key]
theorem enc_none {a : Array Nat} (h : ∀ c ∈ a.toList, c < 128) : a.findIdx? asciiCodec.bad = none := by
  rw [Array.findIdx?_eq_none_iff]
  intro c hc
  have := h c (by simpa using hc)
  simp [asciiCodec]; omega
theorem enc_ascii (id : String) (self : Value) (x : Str) (h : ∀ c ∈ x.cps.toList, c < 128) (hn : 0 < x.length) (hz : x.length ≤ 1000) : encodeNarrow id asciiCodec none self x = pure (x.cps.map (·.toUInt8)) := by
  have hS : (1000 : Nat) ≤ sizeLine := by decide +kernel
  unfold encodeNarrow
  refine sem_bind (fe_two (s1 := (x.length, x.cps.map (·.toUInt8), {})) hn (fun i => ?_) (fun i => ?_)) ?_
  · dsimp -zeta only
    refine sem_if_f (by simp) ?_
    obtain ⟨c, hc⟩ : ∃ c, x.cps[0]? = some c := ⟨_, Array.getElem?_eq_getElem hn⟩
    rw [hc]
    dsimp -zeta only
    have hc' : c < 128 := h c (by
      have := Array.mem_of_getElem? hc
      simpa using this)
    refine sem_if_t (by simp [asciiCodec]; omega) ?_
    have e : x.cps.extract = x.cps := by simp
    dsimp only
    rw [e, enc_none h]
    simp only [Option.getD_none, Nat.zero_add, enc_fold]
    rw [e]
    rfl
  · dsimp -zeta only
    refine sem_if_f (by simp; exact Nat.le_trans hz hS) ?_
    have e : x.cps[x.length]? = none := Array.getElem?_eq_none (Nat.le_refl _)
    dsimp -zeta only
    rw [e]
  · rfl
theorem enc_empty (id : String) (self : Value) : encodeNarrow id asciiCodec none self ⟨#[]⟩ = pure #[] := by kernel_rfl
theorem enc_all (id : String) (self : Value) (x : Str) (h : ∀ c ∈ x.cps.toList, c < 128) (hz : x.length ≤ 1000) : encodeNarrow id asciiCodec none self x = pure (x.cps.map (·.toUInt8)) := by
  by_cases hn : 0 < x.length
  · exact enc_ascii id self x h hn hz
  · obtain ⟨⟨l⟩⟩ := x
    cases l with
    | nil => exact (enc_empty id self).trans (by simp)
    | cons c l => exact absurd (Nat.succ_pos l.length) hn
theorem enc_tree (x : Str) (t u : Tok) : «str.encode» ⟨[.str x t, .str (Str.ofString "ascii") u], []⟩ = (encodeRoad "str.encode" (.str x t) x (Str.ofString "ascii") none >>= fun v => ret v) := by kernel_rfl
theorem enc_road (id : String) (self : Value) (x : Str) : encodeRoad id self x (Str.ofString "ascii") none = (encodeNarrow id asciiCodec none self x >>= fun b => mkBytes b) := by kernel_rfl
section
variable {prog : Program} {w : World} {A : Around} {E : Value → Shared → Prop} {s : Shared}
theorem encode_meets {x : Str} {t u : Tok} (hx : ∀ c ∈ x.cps.toList, c < 128) (hz : x.length ≤ 1000) : Meets («str.encode» ⟨[.str x t, .str (Str.ofString "ascii") u], []⟩) (fun _ R s => ∀ t' k, R (.ok (.ret (.bytes (x.cps.map (·.toUInt8)) t'))) { s with toks := k }) := by
  refine .of_wp fun prog w A R s h => ?_
  rw [enc_tree, enc_road, enc_all _ _ _ hx hz]
  refine wpAny_bind (wpAny_bind (wpAny_pure ?_))
  exact wpAny_mkBytes (wpAny_pure ⟨_, rfl, h _ _⟩) (by have : (1000 : Nat) ≤ sizeLine := by decide +kernel
                                                       simp; exact Nat.le_trans hz this)
theorem enc_args (a b : Value) : argsOk "str.encode" ⟨[a, b], []⟩ := PySem.F.args_str_encode_2 a b
theorem call_encode {x : Str} {t u : Tok} {Q : Value → Shared → Prop} (hx : ∀ c ∈ x.cps.toList, c < 128) (hz : x.length ≤ 1000) (h : ∀ t' k, Q (.bytes (x.cps.map (·.toUInt8)) t') { s with toks := k }) :
    wpAny (model prog w) A (call (.builtin "str.encode") [.str x t, .str (Str.ofString "ascii") u]) Q E s :=
  call_meets PySem.F.slot_str_encode (typeIs_str _ _ _) PySem.F.entry_str_encode (enc_args _ _) (encode_meets hx hz) h
end
theorem dec_tree (b : Array UInt8) (t u : Tok) : «bytes.decode» ⟨[.bytes b t, .str (Str.ofString "ascii") u], []⟩ = (if b.isEmpty then (do rule "bytes.decode.empty"; retStr Str.empty) else mkStr (PySem.Str.ofString "utf-8") >>= fun _ => mkStr (Str.ofString "ascii") >>= fun e => mkStr (PySem.Str.ofString "bytes.decode") >>= fun d =>
    call (.builtin "_codecs.decode.text") [.bytes b t, e, .none, d] >>= fun v => ret v) := by kernel_rfl
theorem fe_run {σ : Type} {n : Nat} {s0 : σ} {g : Nat → σ} {f : Nat → σ → Sem (ForInStep σ)} (h0 : g 0 = s0) (h : ∀ i, i < n → f i (g i) = pure (.yield (g (i + 1)))) : (forIn [0:n] s0 f : Sem σ) = pure (g n) := by
  rw [Std.Legacy.Range.forIn_eq_forIn_range']
  have e : Std.Legacy.Range.size [0:n] = n := by simp [Std.Legacy.Range.size]
  rw [e]
  subst h0
  have key : ∀ k i, i + k = n → (forIn (List.range' i k 1) (g i) f : Sem σ) = pure (g n) := by
    intro k
    induction k with
    | zero => intro i hi; obtain rfl : i = n := by omega
              rfl
    | succ k ih =>
      intro i hi
      rw [List.range'_succ, List.forIn_cons, h i (by omega)]
      exact ih (i + 1) (by omega)
  exact key n 0 (by omega)
theorem dec_run (id : String) (b : Array UInt8) (h : ∀ c ∈ b.toList, c.toNat < 128) (hz : b.size ≤ 1000) : runDecoder id asciiDecoder none true b 0 [] = pure (b.map (·.toNat), b.size) := by
  have hS : (1000 : Nat) ≤ sizeLine := by decide +kernel
  unfold runDecoder
  refine sem_bind (fe_run (g := fun i => (i, (b.map (·.toNat)).take i, { held := [] })) (by simp) (fun i hi => ?_)) ?_
  · dsimp -zeta only
    refine sem_if_f (by simp; omega) ?_
    dsimp -zeta only
    refine sem_if_f (by omega) ?_
    have hg : b.getD i 0 = b[i] := by simp [Array.getD, hi]
    have hc : b[i].toNat < 128 := h _ (by simp)
    have e : asciiDecoder.find true b i = .text [b[i].toNat] (i + 1) := by
      show (if (b.getD i 0).toNat < 128 then _ else _) = _
      rw [hg, if_pos hc]
      rfl
    rw [e]
    dsimp only
    have e2 : (b.map (·.toNat)).take i ++ [b[i].toNat].toArray = (b.map (·.toNat)).take (i + 1) := by
      apply Array.ext'
      simp
      rw [List.take_add_one]
      simp [hi]
    rw [e2]
  · exact congrArg (fun z => pure (z, b.size)) (by apply Array.ext'; simp; exact List.take_of_length_le (by simp))
theorem dec_road {id : String} {b : Array UInt8} : decodeRoad id b (Str.ofString "ascii") none [] = (runDecoder id asciiDecoder none true b 0 [] >>= fun r => mkStr ⟨r.1⟩) := by kernel_rfl
section
variable {prog : Program} {w : World} {A : Around} {E : Value → Shared → Prop} {s : Shared} {b : Array UInt8}
theorem dec_text {t t1 t2 : Tok} {d : PySem.Str} (hx : ∀ c ∈ b.toList, c.toNat < 128) (hz : b.size ≤ 1000) :
    Meets («_codecs.decode.text» ⟨[.bytes b t, .str (PySem.Str.ofString "ascii") t1, .none, .str d t2], []⟩) (fun _ R s => R (.ok (.ret (.str ⟨b.map (·.toNat)⟩ s.toks))) { s with toks := s.toks + 1 }) := by
  refine .of_wp fun prog w A R s h => ?_
  show wpAny _ _ (Bytes.bytesLike _ (.bytes b t) >>= fun r => _) _ _ s
  refine wpAny_bind (wpAny_of_eq KBd.like_eq ?_)
  refine wpAny_bind (wpAny_of_eq KBd.held_eq ?_)
  show wpAny _ _ (_codecs.decodeRoad _ b (PySem.Str.ofString "ascii") none [] >>= fun v => _) _ _ s
  rw [dec_road, dec_run _ _ hx hz]
  refine wpAny_bind (wpAny_bind (wpAny_pure ?_))
  refine wpAny_mkStr (wpAny_pure ⟨_, rfl, h⟩) ?_
  have : (1000 : Nat) ≤ sizeLine := by decide +kernel
  show (b.map (·.toNat)).size ≤ sizeLine
  simp; omega
theorem dec_meets {t u : Tok} (hx : ∀ c ∈ b.toList, c.toNat < 128) (hz : b.size ≤ 1000) (h0 : b.isEmpty = false) :
    Meets («bytes.decode» ⟨[.bytes b t, .str (Str.ofString "ascii") u], []⟩) (fun _ R s => ∀ t' k, R (.ok (.ret (.str ⟨b.map (·.toNat)⟩ t'))) { s with toks := k }) := by
  refine .of_wp fun prog w A R s h => ?_
  rw [dec_tree, h0]
  refine bm_if_false rfl ?_
  refine wpAny_bind (wpAny_mkStr ?_ (by decide))
  refine wpAny_bind (wpAny_mkStr ?_ (by decide))
  refine wpAny_bind (wpAny_mkStr ?_ (by decide))
  exact wpAny_bind (call_function_meets KBd.kind_text KBd.plain_text KBd.entry_text (KBd.args_text _ _ _ _) (dec_text hx hz) (wpAny_pure ⟨_, rfl, h _ _⟩))
theorem call_decode {t u : Tok} {Q : Value → Shared → Prop} (hx : ∀ c ∈ b.toList, c.toNat < 128) (hz : b.size ≤ 1000) (h0 : b.isEmpty = false) (h : ∀ t' k, Q (.str ⟨b.map (·.toNat)⟩ t') { s with toks := k }) :
    wpAny (model prog w) A (call (.builtin "bytes.decode") [.bytes b t, .str (Str.ofString "ascii") u]) Q E s :=
  call_meets FB.slot_bytes_decode (typeIs_bytes _ _ _) FB.entry_bytes_decode (by first | exact FB.args_bytes_decode_2 _ _ | (unfold argsOk; kernel_rfl)) (dec_meets hx hz h0) h
end
end
theorem anew_Tx : True := by
  w_top off
  exact True.intro
/-- The signs of a row of things, one behind the other. -/
def txt (ns : List Nat) : List Nat := ns.flatMap fun n => [sgn (n / 3), sgn (n % 3)]
theorem txt_len (ns : List Nat) : (txt ns).length = 2 * ns.length := by
  induction ns with
  | nil => rfl
  | cons n ns ih => simp [txt] at ih ⊢; omega
theorem txt_small (ns : List Nat) : ∀ c ∈ txt ns, c < 128 := by
  intro c hc
  obtain ⟨n, _, h⟩ := List.mem_flatMap.mp hc
  have : ∀ k, sgn k < 128 := fun k => by unfold sgn; split <;> (try split) <;> omega
  simp at h
  rcases h with h | h <;> rw [h] <;> exact this _
theorem glued_list (g : Str) (p : Str) (ps : List Str) : (Builtin.Str.glued g (p :: ps)).cps.toList = p.cps.toList ++ ps.flatMap fun q => g.cps.toList ++ q.cps.toList := by
  have key : ∀ (ps : List Str) (acc : Array Nat), (ps.foldl (fun acc p => acc ++ g.cps ++ p.cps) acc).toList = acc.toList ++ ps.flatMap fun q => g.cps.toList ++ q.cps.toList := by
    intro ps
    induction ps with
    | nil => intro acc; simp
    | cons q ps ih => intro acc; rw [List.foldl_cons, ih]; simp
  exact key ps _
theorem txt_join (ns : List Nat) : (Txt.join (Str.ofString "") (ns.map th)).cps.toList = txt ns := by
  cases ns with
  | nil => rfl
  | cons n ns =>
    have e : (Str.ofString "").cps.toList = [] := rfl
    refine (glued_list _ _ _).trans ?_
    rw [e, List.flatMap_map]
    simp [txt, th]
theorem txt_get (ns : List Nat) : ∀ (i r : Nat), r < 2 → (txt ns)[2 * i + r]? = ns[i]?.map fun n => if r = 0 then sgn (n / 3) else sgn (n % 3) := by
  induction ns with
  | nil => intro i r _; simp [txt]
  | cons n ns ih =>
    intro i r hr
    have e : txt (n :: ns) = sgn (n / 3) :: sgn (n % 3) :: txt ns := by simp [txt]
    rw [e]
    cases i with
    | zero =>
      obtain rfl | rfl : r = 0 ∨ r = 1 := by omega
      · simp
      · simp
    | succ i =>
      have : 2 * (i + 1) + r = (2 * i + r) + 1 + 1 := by omega
      rw [this, List.getElem?_cons_succ, List.getElem?_cons_succ, ih i r hr]
      simp
/-- Turned about, once as one word and once more by twos. -/
theorem txt_turned {ns : List Nat} {b B C : Array UInt8} (hb : b.toList = (txt ns).map (·.toUInt8)) (hB : B.size = b.size) (h1 : ∀ q, q < b.size → B[q]? = b[bsrc b.size q]?) (hC : C.size = B.size) (h2 : ∀ q, q < B.size → C[q]? = B[bsrc 2 q]?) :
    (C.map (·.toNat)).toList = txt ns.reverse := by
  have hz : b.size = 2 * ns.length := by rw [← Array.length_toList, hb, List.length_map, txt_len]
  apply List.ext_getElem?
  intro q
  rw [Array.toList_map, List.getElem?_map, Array.getElem?_toList]
  by_cases hq : q < 2 * ns.length
  · obtain ⟨i, r, rfl, hr⟩ : ∃ i r, q = 2 * i + r ∧ r < 2 := ⟨q / 2, q % 2, by omega, by omega⟩
    have hi : i < ns.length := by omega
    rw [h2 _ (by omega), txt_get _ _ _ hr, List.getElem?_reverse hi]
    have e1 : bsrc 2 (2 * i + r) = 2 * i + (1 - r) := by unfold bsrc; omega
    rw [e1, h1 _ (by omega)]
    have e2 : bsrc b.size (2 * i + (1 - r)) = 2 * (ns.length - 1 - i) + r := by
      unfold bsrc
      rw [Nat.div_eq_of_lt (by omega), Nat.mod_eq_of_lt (by omega)]; omega
    rw [e2, ← Array.getElem?_toList, hb, List.getElem?_map, txt_get _ _ _ hr]
    have hs : ∀ k, (sgn k).toUInt8.toNat = sgn k := fun k => by unfold sgn; split <;> (try split) <;> rfl
    obtain ⟨n, hn⟩ : ∃ n, ns[ns.length - 1 - i]? = some n := ⟨_, List.getElem?_eq_getElem (by omega)⟩
    rw [hn]
    simp only [Option.map_some]
    split <;> rw [hs]
  · rw [Array.getElem?_eq_none (by omega), List.getElem?_eq_none (by rw [txt_len, List.length_reverse]; omega)]
    rfl
theorem anew_CR : True := by
  w_top off
  exact True.intro
section
variable {prog : Program} {w : World} {A : Around} {E : Value → Shared → Prop} {s : Shared} {h₀ : Heap} {L : Addr} {m : Str → Option Value} {news : List (Addr × Obj)} {env : Env} {scope : Scope} {x : Str} {elt : Expr} {cl : List (Str × Addr)}
theorem paired_get {F : Value → Value → Prop} {vs ys : List Value} (h : Paired F vs ys) : vs.length = ys.length ∧ ∀ (i : Nat) (v y : Value), vs[i]? = some v → ys[i]? = some y → F v y := by
  induction h with
  | nil => exact ⟨rfl, fun i v y h => by simp at h⟩
  | cons hf _ ih =>
    refine ⟨by simp [ih.1], fun i v y hv hy => ?_⟩
    cases i with
    | zero => simp at hv hy; subst hv; subst hy; exact hf
    | succ i => simp at hv hy; exact ih.2 i v y hv hy
/-- A comprehension over a range, that closes over names, whose elements make no lasting thing. -/
theorem comp_R {r : Addr} {a b c : Int} {t u v : Tok} {n : Nat} {Fv : Int → Value → Prop} {Q : Value → Shared → Prop} (hh : A.handled = none) (hr : IsRange s.heap r a b c t u v) (hsmall : Builtin.Range.small a b c = true) (hn : Builtin.Range.rangeSize a b c = (n : Int)) (F : Fr h₀ L s.heap m) (N : News h₀ L s.heap news) (hz : n ≤ 1000)
    (he : ∀ C (i : Nat) (tt : Tok) (s₃ : Shared) m₃ E', i < n → s₃.heap.Ns C m₃ → m₃ x = some (.int (a + (i : Nat) * c) tt) → (∀ b o, s.heap.get? b = some o → s₃.heap.get? b = some o) → wpAny (model prog w) A (eval elt (compEnvC scope cl C env)) (fun y s₄ => Fv (a + (i : Nat) * c) y ∧ Keeps s₃ s₄) E' s₃)
    (h : ∀ D ys n' h' tk, ys.length = n → (∀ (i : Nat) (y : Value), ys[i]? = some y → Fv (a + (i : Nat) * c) y) → Fr h₀ L h' m → News h₀ L h' ((D, listObj ys n') :: news) → (∀ p ∈ news, p.1 ≠ D) → Q (.ref D) { s with heap := h', toks := tk }) :
    wpAny (model prog w) A (pyIter (.ref r)) (fun it s₂ => ∃ I fp wr n P St, it = .ref I ∧ Walks prog w A I fp wr n P St ∧ n ≤ sizeLine ∧ St 0 s₂.heap ∧ (∀ b ∈ fp, b < s₂.heap.objs.size) ∧
      QuietOnC prog w A env scope cl x [] elt wr P (fun _ => true) (fun v y => ∃ z t, v = .int z t ∧ Fv z y) s₂ ∧
      (∀ D h' tk ys (vs : List Value), s₂.heap.get? D = none → h'.IsList D ys → h'.PlainList D ys → vs.length = n → (∀ j v, vs[j]? = some v → P j v) → Paired (fun v y => ∃ z t, v = .int z t ∧ Fv z y) (vs.filter fun _ => true) ys.toList →
        (∀ b o, b ∉ wr → s₂.heap.get? b = some o → h'.get? b = some o) → Q (.ref D) { s₂ with heap := h', toks := tk })) E s := by
  refine wpAny_pyIter_range hr hsmall ?_
  have W := (Walks.range (prog := prog) (w := w) hh s.heap.objs.size a c n).bound
  refine ⟨_, _, _, n, _, _, rfl, W, by rw [sizeLine_eq]; omega, (by show IsRangeIter _ _ _ _ _; rw [hn]; simpa using Heap.get?_push_size _ rfl), fun b hb => ?_, ⟨fun C i v s₃ m₃ E' _ _ _ _ _ _ => ?_, fun C i v s₃ m₃ E' _ hP _ hn3 hx hk ht => ?_⟩, ?_⟩
  · rw [List.mem_singleton.mp hb, Heap.size_push]
    exact Nat.lt_succ_self _
  · rw [List.forIn_nil]
    exact wpAny_pure ⟨rfl, ⟨_, _, rfl, fun _ _ e => e⟩⟩
  · obtain ⟨hi, tt, rfl⟩ := hP
    refine wpAny_mono (he C i tt s₃ m₃ E' hi hn3 hx fun b o e => hk b o (fun q => ?_) (Heap.get?_push_of_some _ e)) (fun y s₄ p => ⟨⟨_, _, rfl, p.1⟩, p.2⟩) fun _ _ e => e
    rw [List.mem_singleton.mp q] at e
    exact absurd (Heap.lt_size e) (Nat.lt_irrefl _)
  · intro D h' tk ys ws hD _ hpl hwl hwp hpair hkeep
    obtain ⟨n', hDo⟩ := hpl
    rw [filter_tt] at hpair
    obtain ⟨hl, hp⟩ := paired_get hpair
    have k2 : ∀ b o, s.heap.get? b = some o → h'.get? b = some o := fun b o e => hkeep b o (fun q => by
      rw [List.mem_singleton.mp q] at e
      exact absurd (Heap.lt_size e) (Nat.lt_irrefl _)) (Heap.get?_push_of_some _ e)
    have hD0 : s.heap.get? D = none := by
      cases q : s.heap.get? D with
      | none => rfl
      | some o => have := Heap.get?_push_of_some { cls := .type "range_iterator", data := .fields #[rawInt a, rawInt (Builtin.Range.rangeSize a b c), rawInt c] } q; rw [hD] at this; cases this
    have hnD : ∀ b o, s.heap.get? b = some o → b ≠ D := fun b o e q => by rw [q, hD0] at e; cases e
    obtain ⟨oL, es, ep, hL, r⟩ := F.ns
    refine h D ys.toList n' h' tk (by omega) (fun i y hy => ?_) ⟨⟨oL, es, ep, k2 _ _ hL, r⟩, fun b o e => k2 b o (F.keep b o e), F.above⟩ (fun p hp => ?_) fun p hp => hnD _ _ (N p hp).1
    · have hi : i < ws.length := by rw [hl]; exact (List.getElem?_eq_some_iff.mp hy).1
      obtain ⟨v, hv⟩ : ∃ v, ws[i]? = some v := ⟨_, List.getElem?_eq_getElem hi⟩
      obtain ⟨_, tt, rfl⟩ := hwp i v hv
      obtain ⟨z, t, e, q⟩ := hp i _ y hv hy
      cases e
      exact q
    · rcases List.mem_cons.mp hp with rfl | hp
      · refine ⟨by rw [hDo, Array.toArray_toList], (hnD _ _ hL).symm, ?_⟩
        cases q : h₀.get? D with
        | none => rfl
        | some o => rw [F.keep _ _ q] at hD0; cases hD0
      · exact ⟨k2 _ _ (N p hp).1, (N p hp).2⟩
/-- A slice of a text that lies in a cell, from a local number on, so many signs. -/
theorem slice_elt {C c : Addr} {oc : Obj} {nm pl : Str} {k : Int} {kk : Nat} {X : Str} {t tt : Tok} {z : Int} {p1 p2 p3 p4 p5 p6 p7 : Pos} {m₃ : Str → Option Value}
    (hn : s.heap.Ns C m₃) (hx : m₃ pl = some (.int z tt)) (hg : s.heap.get? c = some oc) (hd : oc.data = .cell (some (.str X t))) (hc : cl.lookup nm = some c) (hX : X.length ≤ 1000)
    (hk : (compEnvC scope cl C env).scope.kind = .function) (h1 : (compEnvC scope cl C env).kindOf nm = some .cell) (h2 : (compEnvC scope cl C env).kindOf pl = some .local)
    (b1 : (nm == ("__debug__" : Str)) = false) (b2 : (pl == ("__debug__" : Str)) = false) :
    wpAny (model prog w) A (eval (.Subscript (.Name nm p1) (.Slice (some (.Name pl p2)) (some (.BinOp (.Name pl p3) .Add (.Constant (.int k) kk p4) p5)) none p6) p7) (compEnvC scope cl C env))
      (fun y s₄ => (∃ t', y = .str (Txt.slice X (some z) (some (z + k))) t') ∧ Keeps s s₄) E s := by
  refine wpAny_Subscript_str_slice ?_
  refine wpAny_Name (wpAny_loadName_cell hk h1 hc ⟨oc, hg, hd⟩ ?_) b1
  rw [evalPart_some, evalPart_some]
  refine wpAny_Name (wpAny_loadName_local hk h2 hn hx ?_) b2
  refine wpAny_BinOp ?_
  refine wpAny_Name (wpAny_loadName_local hk h2 hn hx ?_) b2
  refine wpAny_Constant_int ?_
  refine add_int ?_
  refine ⟨X, t, some (z, tt), some (z + k, _), rfl, rfl, rfl, ?_⟩
  refine post_val_or_str ⟨?_, fun t' k' => ⟨⟨t', rfl⟩, ⟨_, _, rfl, fun _ _ e => Heap.get?_push_of_some _ e⟩⟩⟩
  have : (1000 : Nat) ≤ sizeLine := by decide +kernel
  exact Nat.le_trans (Txt.slice_le X (some z) (some (z + k))) (Nat.le_trans hX this)
end
/-- The i-th thing of a text of things. -/
theorem txt_slice (ns : List Nat) (i n : Nat) (h : ns[i]? = some n) : Txt.slice ⟨(txt ns).toArray⟩ (some ((0 : Int) + (i : Nat) * 2)) (some ((0 : Int) + (i : Nat) * 2 + 2)) = th n := by
  have hi : i < ns.length := (List.getElem?_eq_some_iff.mp h).1
  have e0 : (0 : Int) + (i : Nat) * 2 = ((2 * i : Nat) : Int) := by omega
  have e1 : ((2 * i : Nat) : Int) + 2 = ((2 * i + 2 : Nat) : Int) := by omega
  rw [e0, e1]
  have hlen : 2 * i + 2 ≤ (⟨(txt ns).toArray⟩ : Str).length := by
    show _ ≤ Array.size _
    rw [List.size_toArray, txt_len]; omega
  refine (PySem.StrLaws.sliceText_nat _ (by omega) hlen).trans ?_
  refine congrArg Str.mk (congrArg List.toArray ?_)
  show ((txt ns).drop (2 * i)).take (2 * i + 2 - 2 * i) = [sgn (n / 3), sgn (n % 3)]
  have a0 := txt_get ns i 0 (by omega)
  have a1 := txt_get ns i 1 (by omega)
  rw [h] at a0 a1
  have e2 : 2 * i + 2 - 2 * i = 2 := by omega
  rw [e2]
  apply List.ext_getElem?
  intro q
  rw [List.getElem?_take]
  by_cases hq : q < 2
  · rw [if_pos hq, List.getElem?_drop]
    obtain rfl | rfl : q = 0 ∨ q = 1 := by omega
    · rw [a0]; rfl
    · rw [a1]; rfl
  · rw [if_neg hq, List.getElem?_eq_none (by simp; omega)]
theorem ThAre.of_get {ns : List Nat} : ∀ {vs : List Value}, vs.length = ns.length → (∀ (i n : Nat), ns[i]? = some n → n < 9 ∧ ∃ t, vs[i]? = some (.str (th n) t)) → ThAre vs ns := by
  induction ns with
  | nil =>
    intro vs hl _
    cases vs with
    | nil => exact .nil
    | cons v vs => simp at hl
  | cons n ns ih =>
    intro vs hl h
    cases vs with
    | nil => simp at hl
    | cons v vs =>
      obtain ⟨hn, t, e⟩ := h 0 n rfl
      simp at e
      subst e
      exact .cons n t hn (ih (by simpa using hl) fun i k hk => by simpa using h (i + 1) k (by simpa using hk))
theorem anew_To : True := by
  w_top off
  exact True.intro
set_option compiler.extract_closed false in
local macro_rules | `(tactic| walk_at "mine enterRC") => `(tactic| k_dflt (refine' code_defCR ?k1 ?k2 ?k3 ?k4 ?k5 ?kA ?kF ?kK ?k6 ?k7 ?k8 ?k9 ?kB ?kD ?_ ?c2 ?c3 ?c4; (case kA => exact rfl); (case kF => exact rfl); (case kK => assumption); (case k1 => k_asm); (case k2 => k_asm); (case k3 => k_asm); (case k4 => k_asm); (case k5 => k_asm); (case k6 => k_is); (case k7 => k_is); (case k8 => ktr_room); (case k9 => first | exact BindsTo.of_eq rfl | exact binds_K (by k_in) rfl (by k_is) rfl rfl rfl); (case kB => exact rfl); (case kD => decide +kernel); (case c2 => exact rfl); (case c3 => exact rfl); (case c4 => exact rfl); intro g' L' h' tk' cells' FG' F' N' Y' B' X' T' l1; k_cells Y'; (try simp only [List.cons_append, List.nil_append] at N'); (try dsimp only)))
/-- At this address lies a def. -/
def IsFn (s : Shared) (a : Addr) : Prop := ∃ o fd, s.heap.get? a = some o ∧ o.data = .func fd
theorem callDef2F {M : Model} {A : Around} {s : Shared} {pos : Pos} {a : Addr} {x y : Sem Value} {Q : Value → Shared → Prop}
    (h : wpR M A x (fun v s₁ => wpR M A y (fun u s₂ => IsFn s₂ a ∧ wpR M A (call (.ref a) [v, u] []) Q s₂) s₁) s) : wpR M A (callWith pos (.ref a) [] [(false, x), (false, y)] []) Q s := callDef2 h
theorem isFn_of {K : Frag} {h₀ : Heap} {L : Addr} {s : Shared} {m : Str → Option Value} {a : Addr} {o : Obj} {fd : FuncData} (hl : K.lookup a = some o) (hd : o.data = .func fd) (X : K.In h₀) (F : Fr h₀ L s.heap m) : IsFn s a := ⟨_, _, (X.keeps F.keep) _ _ hl, hd⟩
def isFnB : Option Obj → Bool
  | some ⟨_, _, .func _, _⟩ => true
  | _ => false
theorem of_isFnB {o : Option Obj} (h : isFnB o = true) : ∃ ob fd, o = some ob ∧ ob.data = .func fd := by
  unfold isFnB at h
  split at h
  · exact ⟨_, _, rfl, rfl⟩
  · cases h
theorem fn_143 (w : World) : ∃ o fd, (Mine.hd.heap_1 w.params).lookup 143 = some o ∧ o.data = .func fd := of_isFnB (by kernel_rfl)
theorem th_lens (ns : List Nat) : ((ns.map th).map (fun x => x.length)).sum + (ns.map th).length ≤ 3 * ns.length := by
  induction ns with
  | nil => simp
  | cons n ns ih =>
    have : (th n).length = 2 := rfl
    simp only [List.map_cons, List.sum_cons, List.length_cons, this] at ih ⊢
    omega
theorem taken_off_does (w : World) (p : Program) (loose : List Str) (mean : PySem.ExcName → Option Value) (mg mb : Str → Option Value) (x dx : Addr) (sv : List Value) (S : List Nat) (sn : Nat) (kh : Int) (tk0 : Tok) (rest : List (Addr × Obj)) (k : Nat) (tk' : Tok)
    (hT : TupsAre sv S rest) (hlen : S.length ≤ 100) (hk : k ≤ S.length) (hxd : x ≠ dx) (ho : ∀ p ∈ rest, p.1 ≠ x) :
    DoesR w p loose mean mg mb 153 12 150 [.ref x, .int (k : Nat) tk'] [] ((x, accObj 132 dx sv sn) :: (dx, szObj kh tk0) :: rest) (fun r news' => ∃ R vs n5 nR, r = .ref R ∧ news' = (R, listObj vs nR) :: (x, accObj 132 dx (sv.take k) n5) :: (dx, szObj kh tk0) :: rest ∧ ThAre vs (S.drop k).reverse ∧ ∀ p ∈ (x, accObj 132 dx (sv.take k) n5) :: (dx, szObj kh tk0) :: rest, p.1 ≠ R) := by
  unfold DoesR
  k_fill
  intro dp un gd cn cs a ccd cl outer A₀ base h₀ L m s Q B F X T hkf hd hu N hret
  refine wpR_call ?_
  walk_at "mine enterRC"
  refine execsR_any ?_
  (repeat' (first | (k_unfold; (try dsimp only)) | ((((fail_if_success (with_reducible show wpAny _ _ (exec (Stmt.While _ _ _ _) _) _ _ _)); (fail_if_success (with_reducible show wpAny _ _ (exec (Stmt.For _ _ _ _ _) _) _ _ _)); (fail_if_success (with_reducible show wpAny _ _ (pyIter _) _ _ _)))); walk1) | ((((fail_if_success (with_reducible show wpAny _ _ (exec (Stmt.While _ _ _ _) _) _ _ _)); (fail_if_success (with_reducible show wpAny _ _ (exec (Stmt.For _ _ _ _ _) _) _ _ _)); (fail_if_success (with_reducible show wpAny _ _ (pyIter _) _ _ _)))); dsimp only; walk1) | fail "no step"))
  rotate_left 6
  rename_i g1 L1 hE tkE FGE FE BE XE TE lE oc dC NE
  have N2 : News g1 _ hE ((x, accObj 132 dx sv sn) :: (dx, szObj kh tk0) :: (L1 + 1, oc) :: rest) := News.sub NE fun p hp => by
    simp only [List.mem_cons] at hp ⊢
    rcases hp with h | h | h | h <;> simp only [h, true_or, or_true]
  clear NE
  have hoc : ∀ p ∈ (L1 + 1, oc) :: rest, p.1 ≠ x := off_cons (Nat.ne_of_gt (Nat.lt_succ_of_lt (lE _ (.head _)))) ho
  k_dflt (refine' Does.use (pop_from_does _ _ _ _ _ _ x dx sv sn kh tk0 _ k tk' (by have := hT.1; omega) (by have := hT.1; omega) hxd ?zho) ?k1 ?k2 ?k3 ?k4 ?kK ?kd ?ku ?kN ?zz)
  case k1 => k_asm
  case k2 => k_asm
  case k3 => k_asm
  case k4 => k_asm
  case kN => exact N2
  case kK => first | exact rfl | assumption
  case kd => ktr_room
  case ku => ktr_units
  case zho => exact hoc
  case zz =>
    rintro r5 news5 h5 tk5 F5 N5 ⟨pl, n5, rfl, rfl, hpx, hpd, hpr⟩
    (repeat' (first | (k_unfold; (try dsimp only)) | ((((fail_if_success (with_reducible show wpAny _ _ (exec (Stmt.While _ _ _ _) _) _ _ _)); (fail_if_success (with_reducible show wpAny _ _ (exec (Stmt.For _ _ _ _ _) _) _ _ _)); (fail_if_success (with_reducible show wpAny _ _ (pyIter _) _ _ _)))); walk1) | ((((fail_if_success (with_reducible show wpAny _ _ (exec (Stmt.While _ _ _ _) _) _ _ _)); (fail_if_success (with_reducible show wpAny _ _ (exec (Stmt.For _ _ _ _ _) _) _ _ _)); (fail_if_success (with_reducible show wpAny _ _ (pyIter _) _ _ _)))); dsimp only; walk1) | fail "no step"))
    k_dflt (refine comp_L (vs := sv.drop k) (nn := 0) (Fv := Piece rest) rfl (by k_asm) (by k_asm) (.tail _ (.head _)) (by rw [List.length_drop]; have := hT.1; omega) ?he ?hq)
    case he =>
      intro C i v s₃ m₃ E' hv hn hx hk3 ht
      have hi : i < S.length - k := by
        have := (List.getElem?_eq_some_iff.mp hv).1
        rw [List.length_drop, hT.1] at this
        exact this
      obtain ⟨y, hy⟩ : ∃ y, S[k + i]? = some y := ⟨_, List.getElem?_eq_getElem (by omega)⟩
      obtain ⟨hy9, D, tf, ty, hD, hmem⟩ := hT.2 _ _ hy
      have hv' : sv[k + i]? = some v := by rw [List.getElem?_drop] at hv; exact hv
      rw [hv'] at hD
      cases hD
      rename News _ _ _ _ => N5
      have hget := hk3 _ _ (N5 _ (.tail _ (.tail _ (.tail _ (.tail _ hmem))))).1
      refine Subscript_ (wpAny_Name (wpAny_loadName_local rfl rfl hn hx (wpAny_Constant_int ?_)) (by decide))
      refine item_tupleL (l := [Value.str "" tf, Value.str (th y) ty]) (j := 1) (x := Value.str (th y) ty) ?ztup (by decide) (by decide) rfl rfl ⟨⟨D, tf, ty, y, hy9, rfl, hmem, rfl⟩, ⟨_, _, rfl, fun _ _ e => e⟩⟩
      case ztup => exact ⟨_, hget, rfl, _, rfl⟩
    case hq =>
      intro D ys n' h7 tk7 hP F7 N7 o7
      have hu : ∀ D o o', (D, o) ∈ rest → (D, o') ∈ rest → o = o' := fun D o o' a b => Option.some.inj ((N2 _ (.tail _ (.tail _ (.tail _ a)))).1.symm.trans (N2 _ (.tail _ (.tail _ (.tail _ b)))).1)
      have hO : ThAre ys (S.drop k) := things_of hu (hT.drop k) hP
      (repeat' (first | (k_unfold; (try dsimp only)) | ((((fail_if_success (with_reducible show wpAny _ _ (exec (Stmt.While _ _ _ _) _) _ _ _)); (fail_if_success (with_reducible show wpAny _ _ (exec (Stmt.For _ _ _ _ _) _) _ _ _)); (fail_if_success (with_reducible show wpAny _ _ (pyIter _) _ _ _)))); walk1) | ((((fail_if_success (with_reducible show wpAny _ _ (exec (Stmt.While _ _ _ _) _) _ _ _)); (fail_if_success (with_reducible show wpAny _ _ (exec (Stmt.For _ _ _ _ _) _) _ _ _)); (fail_if_success (with_reducible show wpAny _ _ (pyIter _) _ _ _)))); dsimp only; walk1) | fail "no step"))
      refine join_listW (ys := (S.drop k).map th) (News.isList N7 (.head _)) (by rw [List.toList_toArray]; exact hO.strs) (by decide) (by have := th_lens (S.drop k); have h9 : (S.drop k).length ≤ 100 := (by rw [List.length_drop]; omega); omega) fun tj kj => ?_
      (repeat' (first | (k_unfold; (try dsimp only)) | ((((fail_if_success (with_reducible show wpAny _ _ (exec (Stmt.While _ _ _ _) _) _ _ _)); (fail_if_success (with_reducible show wpAny _ _ (exec (Stmt.For _ _ _ _ _) _) _ _ _)); (fail_if_success (with_reducible show wpAny _ _ (pyIter _) _ _ _)))); walk1) | ((((fail_if_success (with_reducible show wpAny _ _ (exec (Stmt.While _ _ _ _) _) _ _ _)); (fail_if_success (with_reducible show wpAny _ _ (exec (Stmt.For _ _ _ _ _) _) _ _ _)); (fail_if_success (with_reducible show wpAny _ _ (pyIter _) _ _ _)))); dsimp only; walk1) | fail "no step"))
      with_reducible refine getMethod_builtin (typeIs_str _ _ _) PySem.F.plainAttrs_str PySem.F.slot_str_encode PySem.F.type_str_encode (fun _ e => nomatch e) ?_
      (repeat' (first | (k_unfold; (try dsimp only)) | ((((fail_if_success (with_reducible show wpAny _ _ (exec (Stmt.While _ _ _ _) _) _ _ _)); (fail_if_success (with_reducible show wpAny _ _ (exec (Stmt.For _ _ _ _ _) _) _ _ _)); (fail_if_success (with_reducible show wpAny _ _ (pyIter _) _ _ _)))); walk1) | ((((fail_if_success (with_reducible show wpAny _ _ (exec (Stmt.While _ _ _ _) _) _ _ _)); (fail_if_success (with_reducible show wpAny _ _ (exec (Stmt.For _ _ _ _ _) _) _ _ _)); (fail_if_success (with_reducible show wpAny _ _ (pyIter _) _ _ _)))); dsimp only; walk1) | fail "no step"))
      have h99 : (S.drop k).length ≤ 100 := by rw [List.length_drop]; omega
      refine call_encode (x := Txt.join (Str.ofString "") ((S.drop k).map th)) (by rw [txt_join]; exact txt_small _) ?z1 fun te ke => ?_
      case z1 => show Array.size _ ≤ 1000; rw [← Array.length_toList, txt_join, txt_len]; omega
      have hb : ((Txt.join (Str.ofString "") ((S.drop k).map th)).cps.map (·.toUInt8)).toList = (txt (S.drop k)).map (·.toUInt8) := by rw [Array.toList_map, txt_join]
      have hbz : ((Txt.join (Str.ofString "") ((S.drop k).map th)).cps.map (·.toUInt8)).size = 2 * (S.drop k).length := by rw [← Array.length_toList, hb, List.length_map, txt_len]
      generalize (Txt.join (Str.ofString "") ((S.drop k).map th)).cps.map (·.toUInt8) = b at hb hbz ⊢
      (repeat' (first | (k_unfold; (try dsimp only)) | ((((fail_if_success (with_reducible show wpAny _ _ (exec (Stmt.While _ _ _ _) _) _ _ _)); (fail_if_success (with_reducible show wpAny _ _ (exec (Stmt.For _ _ _ _ _) _) _ _ _)); (fail_if_success (with_reducible show wpAny _ _ (pyIter _) _ _ _)))); walk1) | ((((fail_if_success (with_reducible show wpAny _ _ (exec (Stmt.While _ _ _ _) _) _ _ _)); (fail_if_success (with_reducible show wpAny _ _ (exec (Stmt.For _ _ _ _ _) _) _ _ _)); (fail_if_success (with_reducible show wpAny _ _ (pyIter _) _ _ _)))); dsimp only; walk1) | fail "no step"))
      refine execsR_any ?_
      (repeat' (first | (k_unfold; (try dsimp only)) | ((((fail_if_success (with_reducible show wpAny _ _ (exec (Stmt.While _ _ _ _) _) _ _ _)); (fail_if_success (with_reducible show wpAny _ _ (exec (Stmt.For _ _ _ _ _) _) _ _ _)); (fail_if_success (with_reducible show wpAny _ _ (pyIter _) _ _ _)))); walk1) | ((((fail_if_success (with_reducible show wpAny _ _ (exec (Stmt.While _ _ _ _) _) _ _ _)); (fail_if_success (with_reducible show wpAny _ _ (exec (Stmt.For _ _ _ _ _) _) _ _ _)); (fail_if_success (with_reducible show wpAny _ _ (pyIter _) _ _ _)))); dsimp only; walk1) | fail "no step"))
      rotate_left 3
      · rename_i h'' hem tk'' _ l' h' F' N' l1 kF kN _ _
        have h0 : (S.drop k).length = 0 := by
          have e : b.toList = [] := by simpa using hem
          have : b.size = 0 := by rw [← Array.length_toList, e]; rfl
          omega
        have e0 : S.drop k = [] := List.length_eq_zero_iff.mp h0
        obtain ⟨_, q1, _, q3, _, q5⟩ := l1
        refine hret _ _ _ _ kF (News.sub kN fun p hp => ?_) ⟨l', [], n5, 0, rfl, rfl, by rw [e0]; exact .nil, off_cons (Nat.ne_of_lt q1) (off_cons (Nat.ne_of_lt q3) (off_of_lt q5))⟩
        simp only [List.mem_cons] at hp ⊢
        rcases hp with h | h | h | h
        · exact .inl h
        · simp only [h, true_or, or_true]
        · simp only [h, true_or, or_true]
        · simp only [h, true_or, or_true]
      · dsimp only
        refine execsR (AssignR (MethodR rfl rfl rfl rfl ?_))
        refine CallR2 ?_
        (repeat' (first | (k_unfold; (try dsimp only)) | ((((fail_if_success (with_reducible show wpAny _ _ (exec (Stmt.While _ _ _ _) _) _ _ _)); (fail_if_success (with_reducible show wpAny _ _ (exec (Stmt.For _ _ _ _ _) _) _ _ _)); (fail_if_success (with_reducible show wpAny _ _ (pyIter _) _ _ _)))); walk1) | ((((fail_if_success (with_reducible show wpAny _ _ (exec (Stmt.While _ _ _ _) _) _ _ _)); (fail_if_success (with_reducible show wpAny _ _ (exec (Stmt.For _ _ _ _ _) _) _ _ _)); (fail_if_success (with_reducible show wpAny _ _ (pyIter _) _ _ _)))); dsimp only; walk1) | fail "no step"))
        refine callDef2F (CallR2 ?_)
        (repeat' (first | (k_unfold; (try dsimp only)) | ((((fail_if_success (with_reducible show wpAny _ _ (exec (Stmt.While _ _ _ _) _) _ _ _)); (fail_if_success (with_reducible show wpAny _ _ (exec (Stmt.For _ _ _ _ _) _) _ _ _)); (fail_if_success (with_reducible show wpAny _ _ (pyIter _) _ _ _)))); walk1) | ((((fail_if_success (with_reducible show wpAny _ _ (exec (Stmt.While _ _ _ _) _) _ _ _)); (fail_if_success (with_reducible show wpAny _ _ (exec (Stmt.For _ _ _ _ _) _) _ _ _)); (fail_if_success (with_reducible show wpAny _ _ (pyIter _) _ _ _)))); dsimp only; walk1) | fail "no step"))
        refine callDef2F (wpR_any ?_)
        (repeat' (first | (k_unfold; (try dsimp only)) | ((((fail_if_success (with_reducible show wpAny _ _ (exec (Stmt.While _ _ _ _) _) _ _ _)); (fail_if_success (with_reducible show wpAny _ _ (exec (Stmt.For _ _ _ _ _) _) _ _ _)); (fail_if_success (with_reducible show wpAny _ _ (pyIter _) _ _ _)))); walk1) | ((((fail_if_success (with_reducible show wpAny _ _ (exec (Stmt.While _ _ _ _) _) _ _ _)); (fail_if_success (with_reducible show wpAny _ _ (exec (Stmt.For _ _ _ _ _) _) _ _ _)); (fail_if_success (with_reducible show wpAny _ _ (pyIter _) _ _ _)))); dsimp only; walk1) | fail "no step"))
        (first | (with_reducible show wpR _ _ _ _ _) | (with_reducible show wpAny _ _ _ _ _ _) | (rotate_left 1; with_reducible show wpR _ _ _ _ _) | (rotate_left 1; with_reducible show wpAny _ _ _ _ _ _) | (rotate_left 2; with_reducible show wpR _ _ _ _ _) | (rotate_left 2; with_reducible show wpAny _ _ _ _ _ _) | (rotate_left 3; with_reducible show wpR _ _ _ _ _) | (rotate_left 3; with_reducible show wpAny _ _ _ _ _ _) | (rotate_left 4; with_reducible show wpR _ _ _ _ _) | (rotate_left 4; with_reducible show wpAny _ _ _ _ _ _) | (rotate_left 5; with_reducible show wpR _ _ _ _ _) | (rotate_left 5; with_reducible show wpAny _ _ _ _ _ _) | (rotate_left 6; with_reducible show wpR _ _ _ _ _) | (rotate_left 6; with_reducible show wpAny _ _ _ _ _ _) | (rotate_left 7; with_reducible show wpR _ _ _ _ _) | (rotate_left 7; with_reducible show wpAny _ _ _ _ _ _) | (rotate_left 8; with_reducible show wpR _ _ _ _ _) | (rotate_left 8; with_reducible show wpAny _ _ _ _ _ _) | (rotate_left 9; with_reducible show wpR _ _ _ _ _) | (rotate_left 9; with_reducible show wpAny _ _ _ _ _ _) | (rotate_left 10; with_reducible show wpR _ _ _ _ _) | (rotate_left 10; with_reducible show wpAny _ _ _ _ _ _) | (rotate_left 11; with_reducible show wpR _ _ _ _ _) | (rotate_left 11; with_reducible show wpAny _ _ _ _ _ _) | (rotate_left 12; with_reducible show wpR _ _ _ _ _) | (rotate_left 12; with_reducible show wpAny _ _ _ _ _ _))
        refine wpR_any ?_
        (repeat' (first | (k_unfold; (try dsimp only)) | ((((fail_if_success (with_reducible show wpAny _ _ (exec (Stmt.While _ _ _ _) _) _ _ _)); (fail_if_success (with_reducible show wpAny _ _ (exec (Stmt.For _ _ _ _ _) _) _ _ _)); (fail_if_success (with_reducible show wpAny _ _ (pyIter _) _ _ _)))); walk1) | ((((fail_if_success (with_reducible show wpAny _ _ (exec (Stmt.While _ _ _ _) _) _ _ _)); (fail_if_success (with_reducible show wpAny _ _ (exec (Stmt.For _ _ _ _ _) _) _ _ _)); (fail_if_success (with_reducible show wpAny _ _ (pyIter _) _ _ _)))); dsimp only; walk1) | fail "no step"))
        (first | (with_reducible show wpR _ _ _ _ _) | (with_reducible show wpAny _ _ _ _ _ _) | (rotate_left 1; with_reducible show wpR _ _ _ _ _) | (rotate_left 1; with_reducible show wpAny _ _ _ _ _ _) | (rotate_left 2; with_reducible show wpR _ _ _ _ _) | (rotate_left 2; with_reducible show wpAny _ _ _ _ _ _) | (rotate_left 3; with_reducible show wpR _ _ _ _ _) | (rotate_left 3; with_reducible show wpAny _ _ _ _ _ _) | (rotate_left 4; with_reducible show wpR _ _ _ _ _) | (rotate_left 4; with_reducible show wpAny _ _ _ _ _ _) | (rotate_left 5; with_reducible show wpR _ _ _ _ _) | (rotate_left 5; with_reducible show wpAny _ _ _ _ _ _) | (rotate_left 6; with_reducible show wpR _ _ _ _ _) | (rotate_left 6; with_reducible show wpAny _ _ _ _ _ _) | (rotate_left 7; with_reducible show wpR _ _ _ _ _) | (rotate_left 7; with_reducible show wpAny _ _ _ _ _ _) | (rotate_left 8; with_reducible show wpR _ _ _ _ _) | (rotate_left 8; with_reducible show wpAny _ _ _ _ _ _) | (rotate_left 9; with_reducible show wpR _ _ _ _ _) | (rotate_left 9; with_reducible show wpAny _ _ _ _ _ _) | (rotate_left 10; with_reducible show wpR _ _ _ _ _) | (rotate_left 10; with_reducible show wpAny _ _ _ _ _ _) | (rotate_left 11; with_reducible show wpR _ _ _ _ _) | (rotate_left 11; with_reducible show wpAny _ _ _ _ _ _) | (rotate_left 12; with_reducible show wpR _ _ _ _ _) | (rotate_left 12; with_reducible show wpAny _ _ _ _ _ _))
        rename_i hne tkA htA
        have hpos : 0 < (S.drop k).length := by
          rcases Nat.eq_zero_or_pos (S.drop k).length with h0 | h0
          · obtain rfl : b = #[] := Array.eq_empty_of_size_eq_zero (by omega)
            exact absurd hne (by decide)
          · exact h0
        k_dflt (refine' DoesR.use (byteswap_does _ _ _ _ _ _ b te _ b.size 1 _ (by omega) (by omega) (by omega) (by omega)) ?k1 ?k2 ?k3 ?k4 ?kK ?kd ?ku ?kN ?zz)
        case k1 => k_asm
        case k2 => k_asm
        case k3 => k_asm
        case k4 => k_asm
        case kN => k_asm
        case kK => first | exact rfl | assumption
        case kd => ktr_room
        case ku => ktr_units
        case zz =>
          rintro r9 news9 h9 tk9 F9 N9 ⟨t9, B9, rfl, rfl, hB1, hB2⟩
          dsimp only
          refine wpR_any ?_
          (repeat' (first | (k_unfold; (try dsimp only)) | ((((fail_if_success (with_reducible show wpAny _ _ (exec (Stmt.While _ _ _ _) _) _ _ _)); (fail_if_success (with_reducible show wpAny _ _ (exec (Stmt.For _ _ _ _ _) _) _ _ _)); (fail_if_success (with_reducible show wpAny _ _ (pyIter _) _ _ _)))); walk1) | ((((fail_if_success (with_reducible show wpAny _ _ (exec (Stmt.While _ _ _ _) _) _ _ _)); (fail_if_success (with_reducible show wpAny _ _ (exec (Stmt.For _ _ _ _ _) _) _ _ _)); (fail_if_success (with_reducible show wpAny _ _ (pyIter _) _ _ _)))); dsimp only; walk1) | fail "no step"))
          · obtain ⟨_, _, q1, q2⟩ := fn_143 w
            exact isFn_of q1 q2 XE (by assumption)
          k_dflt (refine' DoesR.use (byteswap_does _ _ _ _ _ _ B9 t9 _ 2 (S.drop k).length _ (by omega) (by omega) (by omega) (by omega)) ?k1 ?k2 ?k3 ?k4 ?kK ?kd ?ku ?kN ?zz)
          case k1 => k_asm
          case k2 => k_asm
          case k3 => k_asm
          case k4 => k_asm
          case kN => k_asm
          case kK => first | exact rfl | assumption
          case kd => ktr_room
          case ku => ktr_units
          case zz =>
            rintro r8 news8 h8 tk8 F8 N8 ⟨t8, B8, rfl, rfl, hC1, hC2⟩
            refine ⟨"bytes", _, FB.plainAttrs_bytes, FB.slot_bytes_decode, FB.type_bytes_decode, typeIs_bytes _ _ _, (fun _ e => nomatch e), ?_⟩
            refine callWithR_builtin rfl (splicedR_cons (wpR_any ?_))
            rw [if_neg Bool.false_ne_true]
            (repeat' (first | (k_unfold; (try dsimp only)) | ((((fail_if_success (with_reducible show wpAny _ _ (exec (Stmt.While _ _ _ _) _) _ _ _)); (fail_if_success (with_reducible show wpAny _ _ (exec (Stmt.For _ _ _ _ _) _) _ _ _)); (fail_if_success (with_reducible show wpAny _ _ (pyIter _) _ _ _)))); walk1) | ((((fail_if_success (with_reducible show wpAny _ _ (exec (Stmt.While _ _ _ _) _) _ _ _)); (fail_if_success (with_reducible show wpAny _ _ (exec (Stmt.For _ _ _ _ _) _) _ _ _)); (fail_if_success (with_reducible show wpAny _ _ (pyIter _) _ _ _)))); dsimp only; walk1) | fail "no step"))
            refine splicedR_nil (wpR_any ?_)
            have hT8 := txt_turned hb hB1 hB2 hC1 hC2
            have hsm : ∀ c ∈ B8.toList, c.toNat < 128 := fun c hc => txt_small _ _ (by rw [← hT8, Array.toList_map]; exact List.mem_map_of_mem hc)
            refine call_decode hsm (by omega) (by rw [Array.isEmpty_eq_false_iff]; intro q; rw [q] at hC1; simp at hC1; omega) fun t7 k7 => ?_
            rw [show (⟨B8.map (·.toNat)⟩ : Str) = ⟨(txt (S.drop k).reverse).toArray⟩ from congrArg Str.mk (Array.ext' (by rw [hT8]))]
            (repeat' (first | (k_unfold; (try dsimp only)) | ((((fail_if_success (with_reducible show wpAny _ _ (exec (Stmt.While _ _ _ _) _) _ _ _)); (fail_if_success (with_reducible show wpAny _ _ (exec (Stmt.For _ _ _ _ _) _) _ _ _)); (fail_if_success (with_reducible show wpAny _ _ (pyIter _) _ _ _)))); walk1) | ((((fail_if_success (with_reducible show wpAny _ _ (exec (Stmt.While _ _ _ _) _) _ _ _)); (fail_if_success (with_reducible show wpAny _ _ (exec (Stmt.For _ _ _ _ _) _) _ _ _)); (fail_if_success (with_reducible show wpAny _ _ (pyIter _) _ _ _)))); dsimp only; walk1) | fail "no step"))
            have N7 : News g1 L1 h8 ((L1 + 1, oc) :: (x, accObj 132 dx (sv.take k) n5) :: (dx, szObj kh tk0) :: rest) := News.sub N8 fun p hp => by
              simp only [List.mem_cons] at hp ⊢
              rcases hp with h | h | h | h <;> simp only [h, true_or, or_true]
            clear N8
            have hoff8 : ∀ p ∈ (x, accObj 132 dx (sv.take k) n5) :: (dx, szObj kh tk0) :: rest, p.1 ≠ L1 + 1 := off_cons (Nat.ne_of_lt (Nat.lt_succ_of_lt (lE _ (.head _)))) (off_cons (Nat.ne_of_lt (Nat.lt_succ_of_lt (lE _ (.tail _ (.head _))))) fun p hp => Nat.ne_of_lt (Nat.lt_succ_of_lt (lE p (.tail _ (.tail _ hp)))))
            refine storeX_C F8 N7 (by rfl) (UpdF.head hoff8) dC fun h6 o6 F6 N6 d6 => ?_
            dsimp only
            refine execsR_any ?_
            (repeat' (first | (k_unfold; (try dsimp only)) | ((fail_if_success (with_reducible show wpAny _ _ (eval (Expr.ListComp _ _ _ _) _) _ _ _)); (((fail_if_success (with_reducible show wpAny _ _ (exec (Stmt.While _ _ _ _) _) _ _ _)); (fail_if_success (with_reducible show wpAny _ _ (exec (Stmt.For _ _ _ _ _) _) _ _ _)); (fail_if_success (with_reducible show wpAny _ _ (pyIter _) _ _ _)))); walk1) | ((fail_if_success (with_reducible show wpAny _ _ (eval (Expr.ListComp _ _ _ _) _) _ _ _)); (((fail_if_success (with_reducible show wpAny _ _ (exec (Stmt.While _ _ _ _) _) _ _ _)); (fail_if_success (with_reducible show wpAny _ _ (exec (Stmt.For _ _ _ _ _) _) _ _ _)); (fail_if_success (with_reducible show wpAny _ _ (pyIter _) _ _ _)))); dsimp only; walk1) | fail "no step"))
            refine wpAny_ListComp_free (fun _ => true) (fun v y => ∃ z t, v = .int z t ∧ (∃ t', y = .str (Txt.slice ⟨(txt (S.drop k).reverse).toArray⟩ (some z) (some (z + 2))) t')) (by rfl) (by decide) (by rfl) (by decide) (by rfl) ?_
            (repeat' (first | (k_unfold; (try dsimp only)) | ((((fail_if_success (with_reducible show wpAny _ _ (exec (Stmt.While _ _ _ _) _) _ _ _)); (fail_if_success (with_reducible show wpAny _ _ (exec (Stmt.For _ _ _ _ _) _) _ _ _)); (fail_if_success (with_reducible show wpAny _ _ (pyIter _) _ _ _)))); walk1) | ((((fail_if_success (with_reducible show wpAny _ _ (exec (Stmt.While _ _ _ _) _) _ _ _)); (fail_if_success (with_reducible show wpAny _ _ (exec (Stmt.For _ _ _ _ _) _) _ _ _)); (fail_if_success (with_reducible show wpAny _ _ (pyIter _) _ _ _)))); dsimp only; walk1) | fail "no step"))
            have hTz : (⟨(txt (S.drop k).reverse).toArray⟩ : Str).length = (S.drop k).length * 2 := by
              show Array.size _ = _
              rw [List.size_toArray, txt_len, List.length_reverse, Nat.mul_comm]
            refine len_str (by rw [hTz]; omega) ?_
            rw [hTz]
            (repeat' (first | (k_unfold; (try dsimp only)) | ((((fail_if_success (with_reducible show wpAny _ _ (exec (Stmt.While _ _ _ _) _) _ _ _)); (fail_if_success (with_reducible show wpAny _ _ (exec (Stmt.For _ _ _ _ _) _) _ _ _)); (fail_if_success (with_reducible show wpAny _ _ (pyIter _) _ _ _)))); walk1) | ((((fail_if_success (with_reducible show wpAny _ _ (exec (Stmt.While _ _ _ _) _) _ _ _)); (fail_if_success (with_reducible show wpAny _ _ (exec (Stmt.For _ _ _ _ _) _) _ _ _)); (fail_if_success (with_reducible show wpAny _ _ (pyIter _) _ _ _)))); dsimp only; walk1) | fail "no step"))
            rename_i hr' F' N' hk'
            refine comp_R (n := (S.drop k).length) (Fv := fun z y => ∃ t', y = .str (Txt.slice ⟨(txt (S.drop k).reverse).toArray⟩ (some z) (some (z + 2))) t') rfl hr' (range_small_step _ _ (by omega) (by omega) (by omega)) (range_size_step _ _ (by omega)) (by k_asm) (by k_asm) (by omega) ?ze ?zh
            case ze =>
              intro C i tt s₃ m₃ E' hi hn3 hx3 hk3
              have hc6 := hk3 _ _ (N' _ (.head _)).1
              exact slice_elt hn3 hx3 hc6 d6 (by rfl) (by omega) (by rfl) (by rfl) (by rfl) (by decide) (by decide)
            case zh =>
              intro D2 ys2 n2 h2 tk2 hl2 hy2 F2 N2 o2
              (repeat' (first | (k_unfold; (try dsimp only)) | ((((fail_if_success (with_reducible show wpAny _ _ (exec (Stmt.While _ _ _ _) _) _ _ _)); (fail_if_success (with_reducible show wpAny _ _ (exec (Stmt.For _ _ _ _ _) _) _ _ _)); (fail_if_success (with_reducible show wpAny _ _ (pyIter _) _ _ _)))); walk1) | ((((fail_if_success (with_reducible show wpAny _ _ (exec (Stmt.While _ _ _ _) _) _ _ _)); (fail_if_success (with_reducible show wpAny _ _ (exec (Stmt.For _ _ _ _ _) _) _ _ _)); (fail_if_success (with_reducible show wpAny _ _ (pyIter _) _ _ _)))); dsimp only; walk1) | fail "no step"))
              rename Fr h₀ L h2 m => Fz
              rename News h₀ L h2 _ => Nz
              refine hret _ _ _ _ Fz (News.sub Nz fun p hp => ?_) ⟨D2, ys2, n5, n2, rfl, rfl, ThAre.of_get (by rw [hl2, List.length_reverse]) fun i n hn => ?_, fun p hp => o2 p (.tail _ hp)⟩
              · rcases List.mem_cons.mp hp with rfl | hp
                · exact .head _
                · exact .tail _ (.tail _ hp)
              · have hn' : n ∈ S := List.mem_of_mem_drop (List.mem_reverse.mp (List.mem_of_getElem? hn))
                obtain ⟨j, hj⟩ := List.mem_iff_getElem?.mp hn'
                refine ⟨(hT.2 j n hj).1, ?_⟩
                have hi : i < ys2.length := by
                  have := (List.getElem?_eq_some_iff.mp hn).1
                  rw [List.length_reverse] at this; omega
                obtain ⟨y, hy⟩ : ∃ y, ys2[i]? = some y := ⟨_, List.getElem?_eq_getElem hi⟩
                obtain ⟨t', e'⟩ := hy2 i y hy
                rw [hy, e', txt_slice _ _ _ hn]
                exact ⟨t', rfl⟩
        all_goals first | (obtain ⟨_, _, q1, q2⟩ := fn_143 w; exact isFn_of q1 q2 XE (by assumption)) | exact default | fail "left"
      all_goals first | exact default | fail "left"
    all_goals first | exact default | fail "left"
  all_goals first | exact default | fail "left"
theorem anew_La : True := by
  w_top off
  exact True.intro
/-- The table of a def's inner code: empty, or with the one code of the lambda. -/
def TabOk (pos : Pos) (qual : Str) (ps : Array Value) (led : List (Addr × Obj)) : Prop :=
  ps = #[] ∨ ∃ c' oc vs t, ps = #[rawInt pos.line, rawInt pos.col, .ref c'] ∧ (c', oc) ∈ led ∧ oc.data = .fields vs ∧ vs[1]? = some (.str qual t)
theorem TabOk.mono {pos : Pos} {qual : Str} {ps : Array Value} {led led' : List (Addr × Obj)} (h : TabOk pos qual ps led) (hs : ∀ p ∈ led, p ∈ led') : TabOk pos qual ps led' := by
  rcases h with h | ⟨c', oc, vs, t, a, b, c, d⟩
  · exact .inl h
  · exact .inr ⟨c', oc, vs, t, a, hs _ b, c, d⟩
section
variable {M : Model} {A : Around} {E : Value → Shared → Prop} {s : Shared} {h₀ : Heap} {L a c P : Addr} {m mg mb : Str → Option Value} {cn : Str} {cs : Scope} {ccd : Value} {cl : List (Str × Addr)} {tl tl₁ : List (Addr × Obj)}
  {p : Program} {loose : List Str} {mean : ExcName → Option Value} {params : Arguments} {body : Expr} {scope : Scope} {ps : Array Value} {pos : Pos}
theorem lam_eval {Q : Value → Shared → Prop} (F : Fr h₀ L s.heap m) (N : News h₀ L s.heap ((P, tabObj ps) :: tl)) (T : Top p loose mean mg mb h₀) (hoff : ∀ p ∈ tl, p.1 ≠ P) (C : CodeHd h₀ c P) (hcd : ccd = .ref c) (ht : TabOk pos ((envX cn cs L a ccd cl).qual ++ "<lambda>") ps tl₁)
    (hdef : defaultsOf params (envX cn cs L a ccd cl) = ([], [])) (hcl : closureFor scope (envX cn cs L a ccd cl) = pure [])
    (h : ∀ f c' oc vs t ctv pre h' tk, Fr h₀ L h' m →
      News h₀ L h' ((f, kla_obj "<lambda>" ((envX cn cs L a ccd cl).qual ++ "<lambda>") params body scope [] ((mg "__name__").getD .none) c' ctv) :: (P, tabObj #[rawInt pos.line, rawInt pos.col, .ref c']) :: (pre ++ tl)) →
      (c', oc) ∈ pre ++ tl₁ → oc.data = .fields vs → vs[1]? = some (.str ((envX cn cs L a ccd cl).qual ++ "<lambda>") t) → (∀ p ∈ pre, ∀ q ∈ (P, tabObj ps) :: tl, q.1 < p.1) → (∀ q ∈ (P, tabObj ps) :: (pre ++ tl), q.1 < f) → Q (.ref f) { s with heap := h', toks := tk }) :
    wpAny M A (eval (.Lambda params body scope pos) (envX cn cs L a ccd cl)) Q E s := by
  refine kla_eval hdef ?_
  rcases ht with rfl | ⟨c', oc, vs, t, rfl, hm, hd, hv⟩
  · refine kla_nest F N T C hcd (UpdF.head hoff) (by simp [TriplesOk]) (by simp [codeAmong]) hcl fun f c' oc vs t ctv h' tk F' N' d1 d2 l1 l2 => ?_
    refine h f c' oc vs t ctv [(c', oc)] h' tk F' (News.sub N' fun p hp => ?_) (.head _) d1 d2 (fun p hp q hq => ?_) fun q hq => ?_
    · simp only [List.mem_cons, List.mem_append, List.mem_nil_iff, or_false] at hp ⊢
      simp only [List.mem_cons, Array.empty_append] at *
      rcases hp with h | h | h | h
      · exact .inl h
      · exact .inr (.inr (.inl h))
      · exact .inr (.inl h)
      · exact .inr (.inr (.inr h))
    · rw [List.mem_singleton.mp hp]; exact l1 q hq
    · rcases List.mem_cons.mp hq with rfl | hq
      · exact Nat.lt_trans (l1 (P, _) (.head _)) l2
      · rcases List.mem_append.mp hq with hq | hq
        · rw [List.mem_singleton.mp hq]; exact l2
        · exact Nat.lt_trans (l1 q (.tail _ hq)) l2
  · refine kla_hit F N T C hcd (.head _) (by simp [TriplesOk, rawInt]) (by simp [codeAmong, rawInt]; rfl) hcl fun f ctv h' tk F' N' l1 => ?_
    exact h f c' oc vs t ctv [] h' tk F' N' hm hd hv (fun p hp => nomatch hp) l1
end
theorem anew_Pl : True := by
  w_top off
  exact True.intro
/-- One thing laid on the stack: all lesser ones are taken off first, from the top down. -/
def westStep (st : List Nat × List Nat) (x : Nat) : List Nat × List Nat :=
  (st.1.take (st.1.countP (fun k => decide (x ≤ k))) ++ [x], st.2 ++ (st.1.drop (st.1.countP (fun k => decide (x ≤ k)))).reverse)
def westF (ns : List Nat) : List Nat × List Nat := ns.foldl westStep ([], [])
def west (ns : List Nat) : List Nat := (westF ns).2 ++ (westF ns).1.reverse
theorem westF_snoc (ns : List Nat) (x : Nat) : westF (ns ++ [x]) = westStep (westF ns) x := by simp [westF]
/-- A property of lists that is shown by laying on behind. -/
theorem snoc_ind {P : List Nat → Prop} (h0 : P []) (h : ∀ l x, P l → P (l ++ [x])) (l : List Nat) : P l := by
  have key : ∀ l : List Nat, P l.reverse := by
    intro l
    induction l with
    | nil => exact h0
    | cons a l ih => rw [List.reverse_cons]; exact h _ _ ih
  have := key l.reverse
  rwa [List.reverse_reverse] at this
theorem westF_sorted (ns : List Nat) : (westF ns).1.Pairwise (· ≥ ·) := by
  induction ns using snoc_ind with
  | h0 => exact .nil
  | h l x ih =>
    rw [westF_snoc]
    obtain ⟨h1, h2⟩ := count_split _ _ (falls_ge (x := x) ih)
    show (_ ++ [x]).Pairwise _
    rw [List.pairwise_append]
    refine ⟨ih.sublist (List.take_sublist _ _), List.pairwise_singleton _ _, fun a ha b hb => ?_⟩
    rw [List.mem_singleton.mp hb]
    exact of_decide_eq_true (h1 a ha)
theorem westF_perm (ns : List Nat) : List.Perm ((westF ns).2 ++ (westF ns).1) ns := by
  induction ns using snoc_ind with
  | h0 => exact .nil
  | h l x ih =>
    rw [westF_snoc]
    show List.Perm ((_ ++ _) ++ (_ ++ [x])) _
    refine List.Perm.trans ?_ (ih.append_right [x])
    rw [← List.append_assoc]
    refine List.Perm.append_right _ ?_
    rw [List.append_assoc]
    refine List.Perm.append_left _ ?_
    refine ((List.reverse_perm _).append_right _).trans (List.perm_append_comm.trans ?_)
    rw [List.take_append_drop]
theorem west_perm (ns : List Nat) : List.Perm (west ns) ns := ((List.reverse_perm _).append_left _).trans (westF_perm ns)
theorem west_length (ns : List Nat) : (west ns).length = ns.length := (west_perm ns).length_eq
theorem westF_mem1 {ns : List Nat} {a : Nat} (h : a ∈ (westF ns).1) : a ∈ ns := (westF_perm ns).subset (List.mem_append_right _ h)
theorem countP_rep {p : Nat → Bool} {M j : Nat} (h : p M = true) : (List.replicate j M).countP p = j := by rw [List.countP_replicate, if_pos h]
theorem countP_none {p : Nat → Bool} {l : List Nat} (h : ∀ a ∈ l, p a = false) : l.countP p = 0 := by
  rw [List.countP_eq_zero]; intro a ha; rw [h a ha]; exact Bool.false_ne_true
/-- The pass, part by part. -/
theorem west_parts (M : Nat) (ns : List Nat) (h : ∀ a ∈ ns, a ≤ M) : (∀ a ∈ (partsF M ns).2, a < M) ∧
    westF ns = (List.replicate (partsF M ns).1.length M ++ (westF (partsF M ns).2).1, (partsF M ns).1.flatMap west ++ (westF (partsF M ns).2).2) := by
  induction ns using snoc_ind with
  | h0 => exact ⟨by simp [partsF], by simp [partsF, westF]⟩
  | h l x ih =>
    obtain ⟨ih1, ih2⟩ := ih fun a ha => h a (List.mem_append_left _ ha)
    have hx : x ≤ M := h x (List.mem_append_right _ (List.mem_singleton.mpr rfl))
    have ep : partsF M (l ++ [x]) = partStep M (partsF M l) x := by simp [partsF]
    rw [ep, westF_snoc, ih2]
    generalize hp : partsF M l = pc at ih1 ⊢
    obtain ⟨ps, cur⟩ := pc
    unfold partStep
    by_cases e : x = M
    · subst e
      rw [if_pos rfl]
      refine ⟨by simp, ?_⟩
      unfold westStep
      have hS : ∀ a ∈ (westF cur).1, decide (x ≤ a) = false := fun a ha => decide_eq_false (by have := ih1 a (westF_mem1 ha); omega)
      have hc : (List.replicate ps.length x ++ (westF cur).1).countP (fun k => decide (x ≤ k)) = ps.length := by
        rw [List.countP_append, countP_rep (by simp), countP_none hS]; rfl
      dsimp only
      rw [hc]
      have e1 : (List.replicate ps.length x ++ (westF cur).1).take ps.length = List.replicate ps.length x := by
        rw [List.take_append_of_le_length (by simp)]; simp
      have e2 : (List.replicate ps.length x ++ (westF cur).1).drop ps.length = (westF cur).1 := by
        rw [List.drop_append_of_le_length (by simp)]; simp
      rw [e1, e2]
      simp [westF, west, List.replicate_succ']
    · rw [if_neg e]
      refine ⟨fun a ha => ?_, ?_⟩
      · rcases List.mem_append.mp ha with ha | ha
        · exact ih1 a ha
        · rw [List.mem_singleton.mp ha]; omega
      · dsimp only
        rw [westF_snoc]
        unfold westStep
        have hc : (List.replicate ps.length M ++ (westF cur).1).countP (fun k => decide (x ≤ k)) = ps.length + (westF cur).1.countP (fun k => decide (x ≤ k)) := by
          rw [List.countP_append, countP_rep (by simpa using hx)]
        dsimp only
        rw [hc]
        generalize (westF cur).1.countP (fun k => decide (x ≤ k)) = c
        have e1 : (List.replicate ps.length M ++ (westF cur).1).take (ps.length + c) = List.replicate ps.length M ++ (westF cur).1.take c := by
          rw [List.take_append, List.length_replicate, List.take_of_length_le (by simp)]; congr 2; omega
        have e2 : (List.replicate ps.length M ++ (westF cur).1).drop (ps.length + c) = (westF cur).1.drop c := by
          rw [List.drop_append, List.length_replicate, List.drop_of_length_le (by simp)]; simp
        rw [e1, e2]
        simp
theorem west_max (M : Nat) (ns : List Nat) (h : ∀ a ∈ ns, a ≤ M) : west ns = (allParts M ns).flatMap west ++ List.replicate ((allParts M ns).length - 1) M := by
  obtain ⟨_, e⟩ := west_parts M ns h
  conv => lhs; unfold west
  rw [e]
  simp [allParts, west]
theorem part_len {M : Nat} {ns q : List Nat} (h : M ∈ ns) (hq : q ∈ allParts M ns) : q.length < ns.length := by
  obtain ⟨h1, _⟩ := partsF_flat M ns
  have h2 : 0 < ns.count M := List.count_pos_iff.mpr h
  have h3 : q.length ≤ (allParts M ns).flatten.length := (List.sublist_flatten_of_mem hq).length_le
  omega
theorem west_grt (f : Nat) : ∀ ns : List Nat, ns.length ≤ f → west ns = grt f ns := by
  induction f with
  | zero =>
    intro ns h
    obtain rfl : ns = [] := List.length_eq_zero_iff.mp (by omega)
    rfl
  | succ f ih =>
    intro ns h
    rw [grt]
    by_cases e : ns = []
    · subst e; rfl
    · rw [if_neg e, west_max (maxN ns) ns fun a ha => (maxN_le ns 0).2 a ha]
      congr 1
      have : ∀ q ∈ allParts (maxN ns) ns, west q = grt f q := fun q hq => ih q (by have := part_len (maxN_in e) hq; omega)
      generalize allParts (maxN ns) ns = ps at this
      induction ps with
      | nil => rfl
      | cons q ps ihp => rw [List.flatMap_cons, List.flatMap_cons, this q (.head _), ihp fun q' hq' => this q' (.tail _ hq')]
theorem anew_Me : True := by
  w_top off
  exact True.intro
/-- A value of this type, with no dict of its own. -/
def IsPlain (s : Shared) (v : Value) (T : String) : Prop := s.TypeIs v T ∧ ∀ a, v = .ref a → ∃ ob, s.heap.get? a = some ob ∧ ob.dict = none
theorem IsPlain.list {h₀ : Heap} {L l : Addr} {s : Shared} {news : List (Addr × Obj)} {vs : List Value} {n : Nat} (N : News h₀ L s.heap news) (hm : (l, listObj vs n) ∈ news) : IsPlain s (.ref l) "list" :=
  ⟨⟨_, (N _ hm).1, rfl⟩, fun a e => by cases e; exact ⟨_, (N _ hm).1, rfl⟩⟩
section
variable {prog : Program} {w : World} {A : Around} {s : Shared} {env : Env}
theorem MethodRT {T : String} {id : String} {o : Expr} {name : Str} {apos pos : Pos} {e : Expr} {Q : Value → Shared → Prop} (pa : PlainAttrs T) (slot : Slot T name id) (hty : typeOf (.builtin id) = pure (.type "method_descriptor"))
    (h : wpAny (model prog w) A (eval o env) (fun ov s₁ => IsPlain s₁ ov T ∧ wpR (model prog w) A (eval e env) (fun v s₂ => wpR (model prog w) A (call (.builtin id) [ov, v] []) Q s₂) s₁) (fun _ _ => False) s)
    (hbase : attributeBase o name env (eval o env) = eval o env)
    (hfew : ((backTo pos (starEach [e] env)).all (fun x => !x.1) && (backToKw pos (keywordEach [] env)).all (fun x => x.1.isSome)
      && decide ([e].length + ([] : List Keyword).length + (if ([] : List Keyword).isEmpty then 0 else 1) < 30)) = true)
    (hline : (apos.endLine == pos.line) = true) (htrees : backTo pos (starEach [e] env) = [(false, eval e env)]) :
    wpR (model prog w) A (eval (.Call (.Attribute o name apos) [e] [] pos) env) Q s := by
  refine MethodR hbase hfew hline htrees (wpR_any (wpAny_mono h (fun ov s₁ h₁ => ?_) fun _ _ e => e))
  obtain ⟨⟨p1, p2⟩, p3⟩ := h₁
  exact ⟨T, id, pa, slot, hty, p1, p2, callWithR_builtin rfl (splicedR_cons (wpR_mono p3 fun v s₂ h₂ => splicedR_nil h₂))⟩
end
theorem anew_Ps : True := by
  w_top off
  exact True.intro
/-- The lambda's place and its name. -/
abbrev lamPos : Pos := { line := 101, col := 81, endLine := 101, endCol := 118 }
abbrev lamQual : Str := Str.ofString "_law_pass" ++ ".<locals>." ++ "<lambda>"
def Offs (x dx o l : Addr) (tl : List (Addr × Obj)) : Prop :=
  (dx ≠ x ∧ o ≠ x ∧ l ≠ x ∧ 155 ≠ x) ∧ (dx ≠ o ∧ l ≠ o ∧ 155 ≠ o) ∧ (dx ≠ 155 ∧ l ≠ 155) ∧ dx ≠ l ∧ ∀ p ∈ tl, p.1 ≠ x ∧ p.1 ≠ o ∧ p.1 ≠ 155 ∧ p.1 ≠ l
def PsJ (ns : List Nat) (l x dx o : Addr) (kh : Int) (tk0 : Tok) (vs : List Value) (nn : Nat) (rest rest₀ : List (Addr × Obj)) (i : Nat) (m : Str → Option Value) (news : List (Addr × Obj)) : Prop :=
  ∃ sv sn ov on ps tl S O pre, m "things" = some (.ref l) ∧ m "stack" = some (.ref x) ∧ m "out" = some (.ref o) ∧ news = (x, accObj 132 dx sv sn) :: (dx, szObj kh tk0) :: (o, listObj ov on) :: (l, listObj vs nn) :: (155, tabObj ps) :: tl ∧
    TupsAre sv S tl ∧ ThAre ov O ∧ westF (ns.take i) = (S, O) ∧ (∀ p ∈ rest, p ∈ tl) ∧ (TabOk lamPos lamQual ps (pre ++ rest₀) ∧ (∀ p ∈ pre, p ∈ tl) ∧ ∀ p ∈ pre, ∀ q ∈ rest, p.1 ≠ q.1) ∧ Offs x dx o l tl
theorem fn_153 (w : World) : ∃ o fd, (Mine.hd.heap_1 w.params).lookup 153 = some o ∧ o.data = .func fd := of_isFnB (by kernel_rfl)
theorem pass_does (w : World) (p : Program) (loose : List Str) (mean : PySem.ExcName → Option Value) (mg mb : Str → Option Value) (l : Addr) (vs : List Value) (ns : List Nat) (nn : Nat) (ps : Array Value) (rest rest₀ : List (Addr × Obj))
    (hv : ThAre vs ns) (hlen : ns.length ≤ 100) (htab : TabOk lamPos lamQual ps rest₀) (hsub : ∀ p ∈ rest₀, p ∈ rest) (hl155 : l ≠ 155) (hr155 : ∀ p ∈ rest, p.1 ≠ 155) (hrl : ∀ p ∈ rest, p.1 ≠ l) :
    DoesR w p loose mean mg mb 160 20 250 [.ref l] [] ((l, listObj vs nn) :: (155, tabObj ps) :: rest) (fun r news' => ∃ R vs' nR ps' pre, r = .ref R ∧ news' = (R, listObj vs' nR) :: (l, listObj vs nn) :: (155, tabObj ps') :: (pre ++ rest) ∧ ThAre vs' (west ns) ∧ TabOk lamPos lamQual ps' (pre ++ rest₀) ∧
      (∀ p ∈ pre, ∀ q ∈ rest, p.1 ≠ q.1) ∧ (∀ p ∈ (l, listObj vs nn) :: (155, tabObj ps') :: (pre ++ rest), p.1 ≠ R) ∧ (∀ p ∈ pre, p.1 ≠ 155 ∧ p.1 ≠ l)) := by
  unfold DoesR
  k_fill
  intro dp un gd cn cs a ccd cl outer A₀ base h₀ L m s Q B F X T hk hd hu N hret
  have hvl := hv.length
  refine wpR_call ?_
  (k_dflt (refine' code_defR ?k1 ?k2 ?k3 ?k4 ?k5 ?kA ?kF ?kK ?k6 ?k7 ?k8 ?k9 ?kB ?_ ?c2 ?c3 ?c4 ?c5; (case kA => exact rfl); (case kF => exact rfl); (case kK => assumption); (case k1 => k_asm); (case k2 => k_asm); (case k3 => k_asm); (case k4 => k_asm); (case k5 => k_asm); (case k6 => k_is); (case k7 => k_is); (case k8 => ktr_room); (case k9 => first | exact BindsTo.of_eq rfl | exact binds_K (by k_in) rfl (by k_is) rfl rfl rfl | (refine' kp_binds ?kx ?ke; (case kx => k_in); (case ke => exact fun _ => rfl))); (case c5 => decide); (case kB => exact locs rfl); (case c2 => exact rfl); (case c3 => exact rfl); (case c4 => exact rfl); intro _ _ _ _ _ _ _ _ _; (try dsimp only); (try k_fold)))
  rename_i g1 L1 he FG1 FE NE BE XE TE
  have C0 : CodeHd g1 159 155 := codeHd_of_K XE (by kernel_rfl)
  refine execsR_any ?_
  (repeat' (first | (k_unfold; (try dsimp only)) | ((((fail_if_success (with_reducible show wpAny _ _ (exec (Stmt.While _ _ _ _) _) _ _ _)); (fail_if_success (with_reducible show wpAny _ _ (exec (Stmt.For _ _ _ _ _) _) _ _ _)); (fail_if_success (with_reducible show wpAny _ _ (pyIter _) _ _ _)))); walk1) | ((((fail_if_success (with_reducible show wpAny _ _ (exec (Stmt.While _ _ _ _) _) _ _ _)); (fail_if_success (with_reducible show wpAny _ _ (exec (Stmt.For _ _ _ _ _) _) _ _ _)); (fail_if_success (with_reducible show wpAny _ _ (pyIter _) _ _ _)))); dsimp only; walk1) | fail "no step"))
  k_dflt (refine' Does.use (acc_make_does _ _ _ _ _ _ _) ?k1 ?k2 ?k3 ?k4 ?kK ?kd ?ku ?kN ?_; (case k1 => k_asm); (case k2 => k_asm); (case k3 => k_asm); (case k4 => k_asm); (case kN => k_asm); (case kK => first | exact rfl | assumption); (case kd => ktr_room); (case ku => ktr_units))
  rintro r1 news1 h1 tk1 F1 N1 ⟨x, dx, kh, tk0, rfl, rfl, l1, l2⟩
  (repeat' (first | (k_unfold; (try dsimp only)) | ((((fail_if_success (with_reducible show wpAny _ _ (exec (Stmt.While _ _ _ _) _) _ _ _)); (fail_if_success (with_reducible show wpAny _ _ (exec (Stmt.For _ _ _ _ _) _) _ _ _)); (fail_if_success (with_reducible show wpAny _ _ (pyIter _) _ _ _)))); walk1) | ((((fail_if_success (with_reducible show wpAny _ _ (exec (Stmt.While _ _ _ _) _) _ _ _)); (fail_if_success (with_reducible show wpAny _ _ (exec (Stmt.For _ _ _ _ _) _) _ _ _)); (fail_if_success (with_reducible show wpAny _ _ (pyIter _) _ _ _)))); dsimp only; walk1) | fail "no step"))
  refine execsR_any ?_
  (repeat' (first | (k_unfold; (try dsimp only)) | ((((fail_if_success (with_reducible show wpAny _ _ (exec (Stmt.While _ _ _ _) _) _ _ _)); (fail_if_success (with_reducible show wpAny _ _ (exec (Stmt.For _ _ _ _ _) _) _ _ _)); (fail_if_success (with_reducible show wpAny _ _ (pyIter _) _ _ _)))); walk1) | ((((fail_if_success (with_reducible show wpAny _ _ (exec (Stmt.While _ _ _ _) _) _ _ _)); (fail_if_success (with_reducible show wpAny _ _ (exec (Stmt.For _ _ _ _ _) _) _ _ _)); (fail_if_success (with_reducible show wpAny _ _ (pyIter _) _ _ _)))); dsimp only; walk1) | fail "no step"))
  rename_i o h2 l3 h3 F3 N3
  have lx : ∀ p ∈ (l, listObj vs nn) :: (155, tabObj ps) :: rest, p.1 ≠ x := fun p hp => Nat.ne_of_lt (Nat.lt_trans (l1 p hp) l2)
  refine execsR (ForR_list (l := l) (vs := vs) (nn := nn) (PsJ ns l x dx o kh tk0 vs nn rest rest₀) rfl (by k_asm) (news := (x, accObj 132 dx [] 0) :: (dx, szObj kh tk0) :: (o, listObj [] 0) :: (l, listObj vs nn) :: (155, tabObj ps) :: rest) ?zN ?zJ ?zl ?zt ?zd (by walk_at "m_look"))
  case zt =>
    rintro i v m₁ news₁ h₁ tk₁ I oI hvi ⟨sv, sn, ov, on, ps₁, tl, S, O, pre₁, hth, hst, hout, rfl, hT, hO, hW, hrest, ⟨htab₁, hpre₁, hpre₂⟩, hoff⟩ hoI F₁ N₁
    have hiv := (List.getElem?_eq_some_iff.mp hvi).1
    obtain ⟨y, hy⟩ : ∃ y, ns[i]? = some y := ⟨_, List.getElem?_eq_getElem (by omega)⟩
    obtain ⟨hy9, ty, hyv⟩ := hv.get i y hy
    obtain rfl : v = .str (th y) ty := Option.some.inj (hvi.symm.trans hyv)
    have hWS : (westF (ns.take i)).1 = S := by rw [hW]
    have hWO : (westF (ns.take i)).2 = O := by rw [hW]
    have hSs := westF_sorted (ns.take i)
    rw [hWS] at hSs
    have hSO : O.length + S.length = (ns.take i).length := by
      have := (westF_perm (ns.take i)).length_eq
      rw [hWS, hWO, List.length_append] at this; exact this
    rw [List.length_take] at hSO
    have hovl := hO.length
    have hsvl := hT.1
    have N₂ : News _ _ h₁ ((x, accObj 132 dx sv sn) :: (dx, szObj kh tk0) :: (I, oI) :: (o, listObj ov on) :: (l, listObj vs nn) :: (155, tabObj ps₁) :: tl) := News.sub N₁ fun p hp => by
      simp only [List.mem_cons] at hp ⊢
      rcases hp with h | h | h | h | h | h | h <;> simp only [h, true_or, or_true]
    clear N₁
    obtain ⟨⟨f1, f2, f3, f4⟩, ⟨f5, f6, f7⟩, ⟨f8, f9⟩, f10, f11⟩ := hoff
    have i1 : x ≠ I := hoI _ (.head _)
    have i2 : dx ≠ I := hoI _ (.tail _ (.head _))
    have i3 : o ≠ I := hoI _ (.tail _ (.tail _ (.head _)))
    have i4 : l ≠ I := hoI _ (.tail _ (.tail _ (.tail _ (.head _))))
    have i5 : 155 ≠ I := hoI _ (.tail _ (.tail _ (.tail _ (.tail _ (.head _)))))
    have i6 : ∀ p ∈ tl, p.1 ≠ I := fun p hp => hoI p (.tail _ (.tail _ (.tail _ (.tail _ (.tail _ hp)))))
    refine execsR_any ?_
    (repeat' (first | (k_unfold; (try dsimp only)) | ((((fail_if_success (with_reducible show wpAny _ _ (exec (Stmt.While _ _ _ _) _) _ _ _)); (fail_if_success (with_reducible show wpAny _ _ (exec (Stmt.For _ _ _ _ _) _) _ _ _)); (fail_if_success (with_reducible show wpAny _ _ (pyIter _) _ _ _)))); walk1) | ((((fail_if_success (with_reducible show wpAny _ _ (exec (Stmt.While _ _ _ _) _) _ _ _)); (fail_if_success (with_reducible show wpAny _ _ (exec (Stmt.For _ _ _ _ _) _) _ _ _)); (fail_if_success (with_reducible show wpAny _ _ (pyIter _) _ _ _)))); dsimp only; walk1) | fail "no step"))
    k_dflt (refine' Does.use (part_count_does _ _ _ _ _ _ x dx sv sn (szObj kh tk0) _ (by omega)) ?k1 ?k2 ?k3 ?k4 ?kK ?kd ?ku ?kN ?_; (case k1 => k_asm); (case k2 => k_asm); (case k3 => k_asm); (case k4 => k_asm); (case kN => k_asm); (case kK => first | exact rfl | assumption); (case kd => ktr_room); (case ku => ktr_units))
    rintro r5 news5 h5 tk5 F5 N5 ⟨t5, rfl, rfl⟩
    (repeat' (first | (k_unfold; (try dsimp only)) | ((((fail_if_success (with_reducible show wpAny _ _ (exec (Stmt.While _ _ _ _) _) _ _ _)); (fail_if_success (with_reducible show wpAny _ _ (exec (Stmt.For _ _ _ _ _) _) _ _ _)); (fail_if_success (with_reducible show wpAny _ _ (pyIter _) _ _ _)))); walk1) | ((((fail_if_success (with_reducible show wpAny _ _ (exec (Stmt.While _ _ _ _) _) _ _ _)); (fail_if_success (with_reducible show wpAny _ _ (exec (Stmt.For _ _ _ _ _) _) _ _ _)); (fail_if_success (with_reducible show wpAny _ _ (pyIter _) _ _ _)))); dsimp only; walk1) | fail "no step"))
    have N6 : News g1 L1 h5 ((155, tabObj ps₁) :: (x, accObj 132 dx sv sn) :: (dx, szObj kh tk0) :: (I, oI) :: (o, listObj ov on) :: (l, listObj vs nn) :: tl) := News.sub N5 fun p hp => by
      simp only [List.mem_cons] at hp ⊢
      rcases hp with h | h | h | h | h | h | h <;> simp only [h, true_or, or_true]
    refine lam_eval (P := 155) (ps := ps₁) F5 N6 (by k_asm) (off_cons f4.symm (off_cons f8 (off_cons i5.symm (off_cons f7.symm (off_cons f9 fun p hp => (f11 p hp).2.2.1))))) C0 rfl htab₁ rfl rfl ?_
    intro f c' oc cvs ct ctv pre h6 tk6 F6 N7 hc' hcd hcv hpre hf
    (repeat' (first | (k_unfold; (try dsimp only)) | ((((fail_if_success (with_reducible show wpAny _ _ (exec (Stmt.While _ _ _ _) _) _ _ _)); (fail_if_success (with_reducible show wpAny _ _ (exec (Stmt.For _ _ _ _ _) _) _ _ _)); (fail_if_success (with_reducible show wpAny _ _ (pyIter _) _ _ _)))); walk1) | ((((fail_if_success (with_reducible show wpAny _ _ (exec (Stmt.While _ _ _ _) _) _ _ _)); (fail_if_success (with_reducible show wpAny _ _ (exec (Stmt.For _ _ _ _ _) _) _ _ _)); (fail_if_success (with_reducible show wpAny _ _ (pyIter _) _ _ _)))); dsimp only; walk1) | fail "no step"))
    rw [hsvl]
    have htab₂ : TabOk lamPos lamQual #[rawInt lamPos.line, rawInt lamPos.col, .ref c'] (pre ++ (pre₁ ++ rest₀)) := .inr ⟨c', oc, cvs, ct, rfl, hc', hcd, hcv⟩
    generalize hps₂ : (#[rawInt lamPos.line, rawInt lamPos.col, Value.ref c'] : Array Value) = ps₂ at N7 htab₂
    generalize hfo : (kla_obj _ _ _ _ _ _ _ _ _ : Obj) = fo at N7
    have N8 : News g1 L1 h6 ((x, accObj 132 dx sv sn) :: (dx, szObj kh tk0) :: (f, fo) :: (155, tabObj ps₂) :: (I, oI) :: (o, listObj ov on) :: (l, listObj vs nn) :: (pre ++ tl)) := News.sub N7 fun p hp => by
      simp only [List.mem_cons, List.mem_append] at hp ⊢
      rcases hp with h | h | h | h | h | h | h | h | h <;> simp only [h, true_or, or_true]
    clear N7
    obtain ⟨fd, hfd⟩ : ∃ fd, fo.data = .func fd := ⟨_, by rw [← hfo]⟩
    k_dflt (refine' Does.use (bisect_stack_does _ _ _ _ _ _ x dx f sv S sn kh tk0 fo fd _ y _ _ _ hy9 (fun j k hk => (hT.2 j k hk).1) hsvl hSs (by omega) hfd ?hkey) ?k1 ?k2 ?k3 ?k4 ?kK ?kd ?ku ?kN ?zz)
    case k1 => k_asm
    case k2 => k_asm
    case k3 => k_asm
    case k4 => k_asm
    case kN => exact N8
    case kK => first | exact rfl | assumption
    case kd => ktr_room
    case ku => ktr_units
    case hkey =>
      intro j k v hkj hvj
      obtain ⟨hk9, D, tf, tyk, hD, hmem⟩ := hT.2 j k hkj
      obtain rfl : v = .ref D := Option.some.inj (hvj.symm.trans hD)
      have hmemD : (D, tupObj [Value.str "" tf, Value.str (th k) tyk]) ∈ (x, accObj 132 dx sv sn) :: (dx, szObj kh tk0) :: (f, fo) :: (155, tabObj ps₂) :: (I, oI) :: (o, listObj ov on) :: (l, listObj vs nn) :: (pre ++ tl) := by
        simp only [List.mem_cons, List.mem_append, hmem, or_true]
      have hc9 : (c', oc) ∈ (x, accObj 132 dx sv sn) :: (dx, szObj kh tk0) :: (f, fo) :: (155, tabObj ps₂) :: (I, oI) :: (o, listObj ov on) :: (l, listObj vs nn) :: (pre ++ tl) := by
        have : (c', oc) ∈ pre ++ tl := by
          rcases List.mem_append.mp hc' with h | h
          · exact List.mem_append_left _ h
          · rcases List.mem_append.mp h with h | h
            · exact List.mem_append_right _ (hpre₁ _ h)
            · exact List.mem_append_right _ (hrest _ (hsub _ h))
        simp only [List.mem_cons, this, or_true]
      have hf9 : (f, fo) ∈ (x, accObj 132 dx sv sn) :: (dx, szObj kh tk0) :: (f, fo) :: (155, tabObj ps₂) :: (I, oI) :: (o, listObj ov on) :: (l, listObj vs nn) :: (pre ++ tl) := .tail _ (.tail _ (.head _))
      generalize hled : (x, accObj 132 dx sv sn) :: (dx, szObj kh tk0) :: (f, fo) :: (155, tabObj ps₂) :: (I, oI) :: (o, listObj ov on) :: (l, listObj vs nn) :: (pre ++ tl) = led at hmemD hc9 hf9 ⊢
      rw [← hfo] at hf9
      (try clear hled); (try clear N8); (try clear F6); (try clear hret); (try clear N); (try clear F); (try clear N6); (try clear N5); (try clear F5); (try clear N₂); (try clear F₁); (try clear B); (try clear X); (try clear T); (try clear BE); (try clear XE); (try clear TE); (try clear FE); (try clear NE); (try clear FG1); (try clear C0); (try clear F1); (try clear N1); (try clear F3); (try clear N3); (try clear hd); (try clear hu)
      unfold Does
      intro dp un gd cn cs a ccd cl outer A₀ base h₀ L m s Q E B F X T hk hd hu N hret
      refine wpAny_call ?_
      k_dflt (refine' kla_code ?k1 ?k2 ?k3 ?k4 ?k5 ?kA ?kF ?kK ?k6 ?k7 ?k8 ?k9 ?kB ?_ ?c2 ?c3 ?c4 ?c5; (case kA => exact rfl); (case kF => exact rfl); (case kK => assumption); (case k1 => k_asm); (case k2 => k_asm); (case k3 => k_asm); (case k4 => k_asm); (case k5 => k_asm); (case k6 => exact hf9); (case k7 => exact codeRec_news N hc9 hcd hcv); (case k8 => ktr_room); (case k9 => exact rfl); (case c5 => decide); (case kB => exact locs rfl); (case c2 => exact rfl); (case c3 => exact rfl); (case c4 => exact rfl); k_whole; intro g' L' h' FG' F' N' B' X' T'; (try dsimp only); (try k_fold))
      (repeat' (first | (k_unfold; (try dsimp only)) | ((((fail_if_success (with_reducible show wpAny _ _ (exec (Stmt.While _ _ _ _) _) _ _ _)); (fail_if_success (with_reducible show wpAny _ _ (exec (Stmt.For _ _ _ _ _) _) _ _ _)); (fail_if_success (with_reducible show wpAny _ _ (pyIter _) _ _ _)))); walk1) | ((((fail_if_success (with_reducible show wpAny _ _ (exec (Stmt.While _ _ _ _) _) _ _ _)); (fail_if_success (with_reducible show wpAny _ _ (exec (Stmt.For _ _ _ _ _) _) _ _ _)); (fail_if_success (with_reducible show wpAny _ _ (pyIter _) _ _ _)))); dsimp only; walk1) | fail "no step"))
      exact hret _ _ _ _ (by assumption) (by assumption) ⟨_, rfl, rfl⟩
    case zz =>
      rintro r7 news7 h7 tk7 F7 N7 ⟨t7, rfl, rfl⟩
      (repeat' (first | (k_unfold; (try dsimp only)) | ((((fail_if_success (with_reducible show wpAny _ _ (exec (Stmt.While _ _ _ _) _) _ _ _)); (fail_if_success (with_reducible show wpAny _ _ (exec (Stmt.For _ _ _ _ _) _) _ _ _)); (fail_if_success (with_reducible show wpAny _ _ (pyIter _) _ _ _)))); walk1) | ((((fail_if_success (with_reducible show wpAny _ _ (exec (Stmt.While _ _ _ _) _) _ _ _)); (fail_if_success (with_reducible show wpAny _ _ (exec (Stmt.For _ _ _ _ _) _) _ _ _)); (fail_if_success (with_reducible show wpAny _ _ (pyIter _) _ _ _)))); dsimp only; walk1) | fail "no step"))
      refine execsR (ExprR (MethodRT PySem.F.plainAttrs_list PySem.F.slot_list_extend PySem.F.type_list_extend ?_ rfl rfl rfl rfl))
      (repeat' (first | (k_unfold; (try dsimp only)) | ((((fail_if_success (with_reducible show wpAny _ _ (exec (Stmt.While _ _ _ _) _) _ _ _)); (fail_if_success (with_reducible show wpAny _ _ (exec (Stmt.For _ _ _ _ _) _) _ _ _)); (fail_if_success (with_reducible show wpAny _ _ (pyIter _) _ _ _)))); walk1) | ((((fail_if_success (with_reducible show wpAny _ _ (exec (Stmt.While _ _ _ _) _) _ _ _)); (fail_if_success (with_reducible show wpAny _ _ (exec (Stmt.For _ _ _ _ _) _) _ _ _)); (fail_if_success (with_reducible show wpAny _ _ (pyIter _) _ _ _)))); dsimp only; walk1) | fail "no step"))
      · exact IsPlain.list (l := o) (vs := ov) (n := on) (by assumption) (.tail _ (.tail _ (.tail _ (.tail _ (.tail _ (.head _))))))
      refine CallR2 ?_
      (repeat' (first | (k_unfold; (try dsimp only)) | ((((fail_if_success (with_reducible show wpAny _ _ (exec (Stmt.While _ _ _ _) _) _ _ _)); (fail_if_success (with_reducible show wpAny _ _ (exec (Stmt.For _ _ _ _ _) _) _ _ _)); (fail_if_success (with_reducible show wpAny _ _ (pyIter _) _ _ _)))); walk1) | ((((fail_if_success (with_reducible show wpAny _ _ (exec (Stmt.While _ _ _ _) _) _ _ _)); (fail_if_success (with_reducible show wpAny _ _ (exec (Stmt.For _ _ _ _ _) _) _ _ _)); (fail_if_success (with_reducible show wpAny _ _ (pyIter _) _ _ _)))); dsimp only; walk1) | fail "no step"))
      refine callDef2F (wpR_any ?_)
      (repeat' (first | (k_unfold; (try dsimp only)) | ((((fail_if_success (with_reducible show wpAny _ _ (exec (Stmt.While _ _ _ _) _) _ _ _)); (fail_if_success (with_reducible show wpAny _ _ (exec (Stmt.For _ _ _ _ _) _) _ _ _)); (fail_if_success (with_reducible show wpAny _ _ (pyIter _) _ _ _)))); walk1) | ((((fail_if_success (with_reducible show wpAny _ _ (exec (Stmt.While _ _ _ _) _) _ _ _)); (fail_if_success (with_reducible show wpAny _ _ (exec (Stmt.For _ _ _ _ _) _) _ _ _)); (fail_if_success (with_reducible show wpAny _ _ (pyIter _) _ _ _)))); dsimp only; walk1) | fail "no step"))
      refine wpR_any ?_
      (repeat' (first | (k_unfold; (try dsimp only)) | ((((fail_if_success (with_reducible show wpAny _ _ (exec (Stmt.While _ _ _ _) _) _ _ _)); (fail_if_success (with_reducible show wpAny _ _ (exec (Stmt.For _ _ _ _ _) _) _ _ _)); (fail_if_success (with_reducible show wpAny _ _ (pyIter _) _ _ _)))); walk1) | ((((fail_if_success (with_reducible show wpAny _ _ (exec (Stmt.While _ _ _ _) _) _ _ _)); (fail_if_success (with_reducible show wpAny _ _ (exec (Stmt.For _ _ _ _ _) _) _ _ _)); (fail_if_success (with_reducible show wpAny _ _ (pyIter _) _ _ _)))); dsimp only; walk1) | fail "no step"))
      · obtain ⟨_, _, q1, q2⟩ := fn_153 w
        exact isFn_of q1 q2 XE (by assumption)
      rename News g1 L1 _ _ => N9
      have hpre' : ∀ p ∈ pre, p.1 ≠ x ∧ p.1 ≠ o ∧ p.1 ≠ 155 ∧ p.1 ≠ l ∧ p.1 ≠ I := fun p hp => ⟨Nat.ne_of_gt (hpre p hp _ (.tail _ (.head _))), Nat.ne_of_gt (hpre p hp _ (.tail _ (.tail _ (.tail _ (.tail _ (.head _)))))), Nat.ne_of_gt (hpre p hp _ (.head _)),
        Nat.ne_of_gt (hpre p hp _ (.tail _ (.tail _ (.tail _ (.tail _ (.tail _ (.head _))))))), Nat.ne_of_gt (hpre p hp _ (.tail _ (.tail _ (.tail _ (.head _)))))⟩
      have hpt : ∀ p ∈ pre ++ tl, p.1 ≠ x ∧ p.1 ≠ o ∧ p.1 ≠ 155 ∧ p.1 ≠ l ∧ p.1 ≠ I := fun p hp => by
        rcases List.mem_append.mp hp with hp | hp
        · exact hpre' p hp
        · obtain ⟨a1, a2, a3, a4⟩ := f11 p hp
          exact ⟨a1, a2, a3, a4, i6 p hp⟩
      have N10 : News g1 L1 _ ((x, accObj 132 dx sv sn) :: (dx, szObj kh tk0) :: (155, tabObj ps₂) :: (I, oI) :: (o, listObj ov on) :: (l, listObj vs nn) :: (pre ++ tl)) := News.sub N9 fun p hp => by
        simp only [List.mem_cons] at hp ⊢
        rcases hp with h | h | h | h | h | h | h <;> simp only [h, true_or, or_true]
      clear N9
      have hk : S.countP (fun k => decide (y ≤ k)) ≤ S.length := List.countP_le_length
      generalize hkk : S.countP (fun k => decide (y ≤ k)) = k at hk ⊢
      k_dflt (refine' DoesR.use (taken_off_does _ _ _ _ _ _ x dx sv S sn kh tk0 ((155, tabObj ps₂) :: (I, oI) :: (o, listObj ov on) :: (l, listObj vs nn) :: (pre ++ tl)) k _ (hT.mono fun p hp => by simp only [List.mem_cons, List.mem_append, hp, or_true]) (by omega) hk f1.symm (off_cons f4 (off_cons i1.symm (off_cons f2 (off_cons f3 fun p hp => (hpt p hp).1))))) ?k1 ?k2 ?k3 ?k4 ?kK ?kd ?ku ?kN ?zz)
      case k1 => k_asm
      case k2 => k_asm
      case k3 => k_asm
      case k4 => k_asm
      case kN => exact N10
      case kK => first | exact rfl | assumption
      case kd => ktr_room
      case ku => ktr_units
      case zz =>
        rintro r11 news11 h11 tk11 F11 N11 ⟨R, vsR, nx, nR, rfl, rfl, hR, hoR⟩
        dsimp only
        have hRl := hR.length
        rw [List.length_reverse, List.length_drop] at hRl
        have N12 : News g1 L1 h11 ((o, listObj ov on) :: (R, listObj vsR nR) :: (x, accObj 132 dx (sv.take k) nx) :: (dx, szObj kh tk0) :: (155, tabObj ps₂) :: (I, oI) :: (l, listObj vs nn) :: (pre ++ tl)) := News.sub N11 fun p hp => by
          simp only [List.mem_cons] at hp ⊢
          rcases hp with h | h | h | h | h | h | h | h <;> simp only [h, true_or, or_true]
        clear N11 N10
        have oR : o ≠ R := hoR (o, listObj ov on) (by simp only [List.mem_cons, true_or, or_true])
        refine wpR_any (extend_L F11 N12 (.head _) (off_cons oR.symm (off_cons f2.symm (off_cons f5 (off_cons f7 (off_cons i3.symm (off_cons f6 fun p hp => (hpt p hp).2.1)))))) (by omega) (by omega) fun h12 no F12 N13 => ?_)
        dsimp only
        clear N12
        refine execsR_any ?_
        (repeat' (first | (k_unfold; (try dsimp only)) | ((((fail_if_success (with_reducible show wpAny _ _ (exec (Stmt.While _ _ _ _) _) _ _ _)); (fail_if_success (with_reducible show wpAny _ _ (exec (Stmt.For _ _ _ _ _) _) _ _ _)); (fail_if_success (with_reducible show wpAny _ _ (pyIter _) _ _ _)))); walk1) | ((((fail_if_success (with_reducible show wpAny _ _ (exec (Stmt.While _ _ _ _) _) _ _ _)); (fail_if_success (with_reducible show wpAny _ _ (exec (Stmt.For _ _ _ _ _) _) _ _ _)); (fail_if_success (with_reducible show wpAny _ _ (pyIter _) _ _ _)))); dsimp only; walk1) | fail "no step"))
        rename News g1 L1 _ _ => N13'
        rename Fr g1 L1 _ _ => F13'
        have N14 : News g1 L1 _ ((x, accObj 132 dx (sv.take k) nx) :: (dx, szObj kh tk0) :: (155, tabObj ps₂) :: (I, oI) :: (o, listObj (ov ++ vsR) no) :: (l, listObj vs nn) :: (pre ++ tl)) := News.sub N13' fun p hp => by
          simp only [List.mem_cons] at hp ⊢
          rcases hp with h | h | h | h | h | h | h <;> simp only [h, true_or, or_true]
        clear N13'
        k_dflt (refine' Does.use (push_does _ _ _ _ _ _ x dx (sv.take k) nx kh tk0 _ y _ ty (by rw [List.length_take]; omega) f1.symm (off_cons f4 (off_cons i1.symm (off_cons f2 (off_cons f3 fun p hp => (hpt p hp).1))))) ?k1 ?k2 ?k3 ?k4 ?kK ?kd ?ku ?kN ?zz)
        case k1 => k_asm
        case k2 => k_asm
        case k3 => k_asm
        case k4 => k_asm
        case kN => exact N14
        case kK => first | exact rfl | assumption
        case kd => ktr_room
        case ku => ktr_units
        case zz =>
          rintro r15 news15 h15 tk15 F15 N15 ⟨D, sn', rfl, rfl, hDx, d1, d2, d3⟩
          clear N14
          (repeat' (first | (k_unfold; (try dsimp only)) | ((((fail_if_success (with_reducible show wpAny _ _ (exec (Stmt.While _ _ _ _) _) _ _ _)); (fail_if_success (with_reducible show wpAny _ _ (exec (Stmt.For _ _ _ _ _) _) _ _ _)); (fail_if_success (with_reducible show wpAny _ _ (pyIter _) _ _ _)))); walk1) | ((((fail_if_success (with_reducible show wpAny _ _ (exec (Stmt.While _ _ _ _) _) _ _ _)); (fail_if_success (with_reducible show wpAny _ _ (exec (Stmt.For _ _ _ _ _) _) _ _ _)); (fail_if_success (with_reducible show wpAny _ _ (pyIter _) _ _ _)))); dsimp only; walk1) | fail "no step"))
          refine wpR_any ?_
          (repeat' (first | (k_unfold; (try dsimp only)) | ((((fail_if_success (with_reducible show wpAny _ _ (exec (Stmt.While _ _ _ _) _) _ _ _)); (fail_if_success (with_reducible show wpAny _ _ (exec (Stmt.For _ _ _ _ _) _) _ _ _)); (fail_if_success (with_reducible show wpAny _ _ (pyIter _) _ _ _)))); walk1) | ((((fail_if_success (with_reducible show wpAny _ _ (exec (Stmt.While _ _ _ _) _) _ _ _)); (fail_if_success (with_reducible show wpAny _ _ (exec (Stmt.For _ _ _ _ _) _) _ _ _)); (fail_if_success (with_reducible show wpAny _ _ (pyIter _) _ _ _)))); dsimp only; walk1) | fail "no step"))
          have hDI : D ≠ I := Nat.ne_of_gt (d3 (I, oI) (.tail _ (.head _)))
          have hDo : D ≠ o := Nat.ne_of_gt (d3 (o, listObj (ov ++ vsR) no) (.tail _ (.tail _ (.head _))))
          have hD155 : D ≠ 155 := Nat.ne_of_gt (d3 (155, tabObj ps₂) (.head _))
          have hDl : D ≠ l := Nat.ne_of_gt (d3 (l, listObj vs nn) (.tail _ (.tail _ (.tail _ (.head _)))))
          have hDx' : D ≠ x := Nat.ne_of_gt d1
          have N16 : News g1 L1 h15 ((I, oI) :: (x, accObj 132 dx (sv.take k ++ [.ref D]) sn') :: (dx, szObj kh tk0) :: (o, listObj (ov ++ vsR) no) :: (l, listObj vs nn) :: (155, tabObj ps₂) :: (D, tupObj [.str "" tk11, .str (th y) ty]) :: (pre ++ tl)) := News.sub N15 fun p hp => by
            simp only [List.mem_cons] at hp ⊢
            rcases hp with h | h | h | h | h | h | h | h <;> simp only [h, true_or, or_true]
          refine TurnEnd.next F15 N16 (off_cons i1 (off_cons i2 (off_cons i3 (off_cons i4 (off_cons i5 (off_cons hDI fun p hp => (hpt p hp).2.2.2.2)))))) ⟨_, _, _, _, _, _, _, _, pre ++ pre₁, by walk_at "m_look", by walk_at "m_look", by walk_at "m_look", rfl, (((hT.take k).mono fun p hp => ?_).snoc hy9 (.head _)), hO.append hR, ?_, fun p hp => .tail _ (List.mem_append_right _ (hrest p hp)), ⟨by rw [List.append_assoc]; exact htab₂, fun p hp => ?_, fun p hp q hq => ?_⟩, ⟨f1, f2, f3, f4⟩, ⟨f5, f6, f7⟩, ⟨f8, f9⟩, f10, fun p hp => ?_⟩
          · exact .tail _ (List.mem_append_right _ hp)
          · show (ns.take (i + 1)).foldl westStep ([], []) = _
            rw [take_foldl _ _ _ _ _ hy]
            show westStep (westF (ns.take i)) y = _
            rw [hW]
            unfold westStep
            dsimp only
            rw [hkk]
          · rcases List.mem_append.mp hp with hp | hp
            · exact .tail _ (List.mem_append_left _ hp)
            · exact .tail _ (List.mem_append_right _ (hpre₁ p hp))
          · rcases List.mem_append.mp hp with hp | hp
            · exact Nat.ne_of_gt (hpre p hp q (.tail _ (.tail _ (.tail _ (.tail _ (.tail _ (.tail _ (hrest q hq))))))))
            · exact hpre₂ p hp q hq
          · rcases List.mem_cons.mp hp with rfl | hp
            · exact ⟨hDx', hDo, hD155, hDl⟩
            · obtain ⟨a1, a2, a3, a4, _⟩ := hpt p hp
              exact ⟨a1, a2, a3, a4⟩
  case zN =>
    refine News.sub N3 fun p hp => ?_
    simp only [List.mem_cons] at hp ⊢
    rcases hp with h | h | h | h
    · simp only [h, true_or, or_true]
    · simp only [h, true_or, or_true]
    · exact .inl h
    · rcases h with h | h | h <;> simp only [h, true_or, or_true]
  case zl =>
    rintro i m₁ news₁ ⟨sv, sn, ov, on, ps₁, tl, S, O, pre₁, hth, hst, hout, rfl, hT, hO, hW, hrest, ⟨htab₁, hpre₁, hpre₂⟩, hoff⟩
    simp only [List.mem_cons, true_or, or_true]
  case zJ =>
    obtain ⟨o1, o2, o3, o4, o5⟩ := l3
    have o6 := lt_of_allLt o5
    have l1' : l < dx := l1 (l, listObj vs nn) (.head _)
    have l1'' : 155 < dx := l1 (155, tabObj ps) (.tail _ (.head _))
    have o7 : ∀ p ∈ rest, p.1 ≠ x ∧ p.1 ≠ o ∧ p.1 ≠ 155 ∧ p.1 ≠ l := fun p hp => by
      have a1 := l1 p (.tail _ (.tail _ hp))
      have a2 := o6 p hp
      exact ⟨Nat.ne_of_lt (Nat.lt_trans a1 l2), Nat.ne_of_lt a2, hr155 p hp, hrl p hp⟩
    exact ⟨[], 0, [], 0, ps, rest, [], [], [], by walk_at "m_look", by walk_at "m_look", by walk_at "m_look", rfl, ⟨rfl, fun i y h => by simp at h⟩, .nil, by simp [westF], fun _ h => h, ⟨htab, (by intro p hp; cases hp), (by intro p hp; cases hp)⟩, ⟨Nat.ne_of_lt l2, Nat.ne_of_gt o1, Nat.ne_of_lt (Nat.lt_trans l1' l2), Nat.ne_of_lt (Nat.lt_trans l1'' l2)⟩, ⟨Nat.ne_of_lt o2, Nat.ne_of_lt o3, Nat.ne_of_lt o4⟩, ⟨Nat.ne_of_gt l1'', hl155⟩, Nat.ne_of_gt l1', o7⟩
  case zd =>
    rintro m₁ news₁ h₁ tk₁ ⟨sv, sn, ov, on, ps₁, tl, S, O, pre₁, hth, hst, hout, rfl, hT, hO, hW, hrest, ⟨htab₁, hpre₁, hpre₂⟩, hoff⟩ F₁ N₁
    dsimp only
    obtain ⟨⟨f1, f2, f3, f4⟩, ⟨f5, f6, f7⟩, ⟨f8, f9⟩, f10, f11⟩ := hoff
    have hWS : (westF (ns.take vs.length)).1 = S := by rw [hW]
    have hWO : (westF (ns.take vs.length)).2 = O := by rw [hW]
    have hSO : O.length + S.length = (ns.take vs.length).length := by
      have := (westF_perm (ns.take vs.length)).length_eq
      rw [hWS, hWO, List.length_append] at this; exact this
    rw [List.length_take] at hSO
    have hovl := hO.length
    have hsvl := hT.1
    refine execsR (ExprR (MethodRT PySem.F.plainAttrs_list PySem.F.slot_list_extend PySem.F.type_list_extend ?_ rfl rfl rfl rfl))
    (repeat' (first | (k_unfold; (try dsimp only)) | ((((fail_if_success (with_reducible show wpAny _ _ (exec (Stmt.While _ _ _ _) _) _ _ _)); (fail_if_success (with_reducible show wpAny _ _ (exec (Stmt.For _ _ _ _ _) _) _ _ _)); (fail_if_success (with_reducible show wpAny _ _ (pyIter _) _ _ _)))); walk1) | ((((fail_if_success (with_reducible show wpAny _ _ (exec (Stmt.While _ _ _ _) _) _ _ _)); (fail_if_success (with_reducible show wpAny _ _ (exec (Stmt.For _ _ _ _ _) _) _ _ _)); (fail_if_success (with_reducible show wpAny _ _ (pyIter _) _ _ _)))); dsimp only; walk1) | fail "no step"))
    · exact IsPlain.list (l := o) (vs := ov) (n := on) (by assumption) (.tail _ (.tail _ (.head _)))
    refine CallR2 ?_
    (repeat' (first | (k_unfold; (try dsimp only)) | ((((fail_if_success (with_reducible show wpAny _ _ (exec (Stmt.While _ _ _ _) _) _ _ _)); (fail_if_success (with_reducible show wpAny _ _ (exec (Stmt.For _ _ _ _ _) _) _ _ _)); (fail_if_success (with_reducible show wpAny _ _ (pyIter _) _ _ _)))); walk1) | ((((fail_if_success (with_reducible show wpAny _ _ (exec (Stmt.While _ _ _ _) _) _ _ _)); (fail_if_success (with_reducible show wpAny _ _ (exec (Stmt.For _ _ _ _ _) _) _ _ _)); (fail_if_success (with_reducible show wpAny _ _ (pyIter _) _ _ _)))); dsimp only; walk1) | fail "no step"))
    refine callDef2F (wpR_any ?_)
    (repeat' (first | (k_unfold; (try dsimp only)) | ((((fail_if_success (with_reducible show wpAny _ _ (exec (Stmt.While _ _ _ _) _) _ _ _)); (fail_if_success (with_reducible show wpAny _ _ (exec (Stmt.For _ _ _ _ _) _) _ _ _)); (fail_if_success (with_reducible show wpAny _ _ (pyIter _) _ _ _)))); walk1) | ((((fail_if_success (with_reducible show wpAny _ _ (exec (Stmt.While _ _ _ _) _) _ _ _)); (fail_if_success (with_reducible show wpAny _ _ (exec (Stmt.For _ _ _ _ _) _) _ _ _)); (fail_if_success (with_reducible show wpAny _ _ (pyIter _) _ _ _)))); dsimp only; walk1) | fail "no step"))
    refine wpR_any ?_
    (repeat' (first | (k_unfold; (try dsimp only)) | ((((fail_if_success (with_reducible show wpAny _ _ (exec (Stmt.While _ _ _ _) _) _ _ _)); (fail_if_success (with_reducible show wpAny _ _ (exec (Stmt.For _ _ _ _ _) _) _ _ _)); (fail_if_success (with_reducible show wpAny _ _ (pyIter _) _ _ _)))); walk1) | ((((fail_if_success (with_reducible show wpAny _ _ (exec (Stmt.While _ _ _ _) _) _ _ _)); (fail_if_success (with_reducible show wpAny _ _ (exec (Stmt.For _ _ _ _ _) _) _ _ _)); (fail_if_success (with_reducible show wpAny _ _ (pyIter _) _ _ _)))); dsimp only; walk1) | fail "no step"))
    · obtain ⟨_, _, q1, q2⟩ := fn_153 w
      exact isFn_of q1 q2 XE (by assumption)
    rename News g1 _ _ _ => N9
    rename Fr g1 _ _ _ => F9
    have N10 : News g1 L1 _ ((x, accObj 132 dx sv sn) :: (dx, szObj kh tk0) :: (155, tabObj ps₁) :: (o, listObj ov on) :: (l, listObj vs nn) :: tl) := News.sub N9 fun p hp => by
      simp only [List.mem_cons] at hp ⊢
      rcases hp with h | h | h | h | h | h <;> simp only [h, true_or, or_true]
    clear N9
    k_dflt (refine' DoesR.use (taken_off_does _ _ _ _ _ _ x dx sv S sn kh tk0 ((155, tabObj ps₁) :: (o, listObj ov on) :: (l, listObj vs nn) :: tl) 0 _ (hT.mono fun p hp => by simp only [List.mem_cons, hp, or_true]) (by omega) (Nat.zero_le _) f1.symm (off_cons f4 (off_cons f2 (off_cons f3 fun p hp => (f11 p hp).1)))) ?k1 ?k2 ?k3 ?k4 ?kK ?kd ?ku ?kN ?zz)
    case k1 => k_asm
    case k2 => k_asm
    case k3 => k_asm
    case k4 => k_asm
    case kN => exact N10
    case kK => first | exact rfl | assumption
    case kd => ktr_room
    case ku => ktr_units
    case zz =>
      rintro r11 news11 h11 tk11 F11 N11 ⟨R, vsR, nx, nR, rfl, rfl, hR, hoR⟩
      dsimp only
      have hRl := hR.length
      rw [List.length_reverse, List.length_drop] at hRl
      have N12 : News g1 L1 h11 ((o, listObj ov on) :: (R, listObj vsR nR) :: (dx, szObj kh tk0) :: (155, tabObj ps₁) :: (l, listObj vs nn) :: tl) := News.sub N11 fun p hp => by
        simp only [List.mem_cons] at hp ⊢
        rcases hp with h | h | h | h | h | h <;> simp only [h, true_or, or_true]
      clear N11 N10
      have oR : o ≠ R := hoR (o, listObj ov on) (by simp only [List.mem_cons, true_or, or_true])
      refine wpR_any (extend_L F11 N12 (.head _) (off_cons oR.symm (off_cons f5 (off_cons f7 (off_cons f6 fun p hp => (f11 p hp).2.1)))) (by omega) (by omega) fun h12 no F12 N13 => ?_)
      dsimp only
      clear N12
      refine execsR_any ?_
      (repeat' (first | (k_unfold; (try dsimp only)) | ((((fail_if_success (with_reducible show wpAny _ _ (exec (Stmt.While _ _ _ _) _) _ _ _)); (fail_if_success (with_reducible show wpAny _ _ (exec (Stmt.For _ _ _ _ _) _) _ _ _)); (fail_if_success (with_reducible show wpAny _ _ (pyIter _) _ _ _)))); walk1) | ((((fail_if_success (with_reducible show wpAny _ _ (exec (Stmt.While _ _ _ _) _) _ _ _)); (fail_if_success (with_reducible show wpAny _ _ (exec (Stmt.For _ _ _ _ _) _) _ _ _)); (fail_if_success (with_reducible show wpAny _ _ (pyIter _) _ _ _)))); dsimp only; walk1) | fail "no step"))
      rename News h₀ _ _ _ => N14
      rename Fr h₀ _ _ _ => F14
      have hall : west ns = O ++ (S.drop 0).reverse := by
        rw [hvl, List.take_length] at hWS hWO
        rw [← hWS, ← hWO, List.drop_zero]
        rfl
      have hpt : ∀ p ∈ pre₁ ++ rest, p ∈ tl := fun p hp => by
        rcases List.mem_append.mp hp with h | h
        · exact hpre₁ p h
        · exact hrest p h
      refine hret _ _ _ _ F14 (News.sub N14 fun p hp => ?_) ⟨o, ov ++ vsR, no, ps₁, pre₁, rfl, rfl, hall ▸ hO.append hR, htab₁, hpre₂, off_cons f6 (off_cons f7 fun p hp => (f11 p (hpt p hp)).2.1), fun p hp => (f11 p (hpre₁ p hp)).2.2⟩
      rcases List.mem_cons.mp hp with rfl | hp
      · simp only [List.mem_cons, true_or, or_true]
      · rcases List.mem_cons.mp hp with rfl | hp
        · simp only [List.mem_cons, true_or, or_true]
        · rcases List.mem_cons.mp hp with rfl | hp
          · simp only [List.mem_cons, true_or, or_true]
          · simp only [List.mem_cons, hpt p hp, or_true]
theorem anew_En : True := by
  w_top off
  exact True.intro
def TurnEnd2 (h₀ : Heap) (L : Addr) (Jn : (Str → Option Value) → List (Addr × Obj) → Prop) (e : Addr) (oe : Obj) (it : Addr) (oi : Obj) (s₁ : Shared) (f : Flow) (s₂ : Shared) : Prop :=
  f = .next ∧ ∃ h' tk m' news', s₂ = { s₁ with heap := h', toks := tk } ∧ Fr h₀ L h' m' ∧ News h₀ L h' ((e, oe) :: (it, oi) :: news') ∧ (∀ p ∈ news', p.1 ≠ e ∧ p.1 ≠ it) ∧ Jn m' news'
section
variable {prog : Program} {w : World} {A : Around} {E : Value → Shared → Prop} {s : Shared} {env : Env} {h₀ : Heap} {xi xv : Str} {body : List Stmt} {Q : Flow → Shared → Prop}
theorem loop_enum {pi pv pt : Pos} {x1 : Nat} {l : Addr} {vs : List Value} {nn : Nat} {m₀ : Str → Option Value} {news : List (Addr × Obj)} (J : Nat → (Str → Option Value) → List (Addr × Obj) → Prop)
    (hh : A.handled = none) (F : Fr h₀ env.locals s.heap m₀) (N : News h₀ env.locals s.heap news) (hj : J 0 m₀ news) (hl : ∀ i m₁ news₁, J i m₁ news₁ → (l, listObj vs nn) ∈ news₁)
    (hxi : env.kindOf xi = some .local) (hxv : env.kindOf xv = some .local) (hp : (env.scope.kind == .class || (env.scope.kind == .module && env.locals != env.globals)) = false)
    (turn : ∀ i v tt m₁ news₁ h tk e oe it oi, vs[i]? = some v → J i m₁ news₁ → (∀ p ∈ news₁, p.1 ≠ e ∧ p.1 ≠ it) → e ≠ it → Fr h₀ env.locals h (fun y => if y = xv then some v else if y = xi then some (.int (i : Nat) tt) else m₁ y) → News h₀ env.locals h ((e, oe) :: (it, oi) :: news₁) →
      wpAny (model prog w) A (execs body env) (TurnEnd2 h₀ env.locals (J (i + 1)) e oe it oi { s with heap := h, toks := tk }) E { s with heap := h, toks := tk })
    (done : ∀ m₁ news₁ h tk, J vs.length m₁ news₁ → Fr h₀ env.locals h m₁ → News h₀ env.locals h news₁ → Q .next { s with heap := h, toks := tk })
    (hE : PassesOwn (model prog w) A env E := by passes_own) :
    wpAny (model prog w) A (call (.type "enumerate") [.ref l]) (fun xval s₁ => wpAny (model prog w) A (pyIter xval) (fun it s₂ =>
      codeAny (model prog w) A (.forLoop (.Tuple [.Name xi pi, .Name xv pv] x1 pt) it body [] env) (fun r s' => match r with | .ok f => Q f s' | .error e => cameBackBy (model prog w) A env E e s') s₂) E s₁) E s := by
  have hlm := hl 0 _ _ hj
  have hls : s.heap.IsList l vs.toArray := News.isList N hlm
  refine call_enumerate_list hls fun h0 he0 hit0 hz0 hk0 => ?_
  refine wpAny_pyIter_enum he0 ?_
  have hL0 : env.locals < s.heap.objs.size := F.ns.lt
  have hh0 : ∀ b, env.locals < b → h₀.get? b = none := fun b hb => Heap.get?_none_of_le (Nat.le_trans F.above (Nat.le_of_lt hb))
  have hnlt : ∀ p ∈ news, p.1 < s.heap.objs.size := fun p hp => Heap.lt_size (N p hp).1
  generalize hit : s.heap.objs.size = it at he0 hit0 hz0 hL0 hnlt
  have F0 : Fr h₀ env.locals h0 m₀ := ⟨F.ns.keeps hk0, fun b o e => hk0 b o (F.keep b o e), F.above⟩
  obtain ⟨oi0, hoi0, ci0, di0⟩ := id hit0
  have hne : it + 1 ≠ it := Nat.succ_ne_self _
  have heL : it + 1 ≠ env.locals := Nat.ne_of_gt (Nat.lt_succ_of_lt hL0)
  have hiL : it ≠ env.locals := Nat.ne_of_gt hL0
  obtain ⟨oe0, hoe0⟩ : ∃ oe, h0.get? (it + 1) = some oe := ⟨_, he0⟩
  have N0 : News h₀ env.locals h0 ((it + 1, oe0) :: (it, oi0) :: news) := fun p hp => by
    rcases List.mem_cons.mp hp with rfl | hp
    · exact ⟨hoe0, heL, hh0 _ (Nat.lt_succ_of_lt hL0)⟩
    · rcases List.mem_cons.mp hp with rfl | hp
      · exact ⟨hoi0, hiL, hh0 _ hL0⟩
      · exact ⟨hk0 _ _ (N p hp).1, (N p hp).2⟩
  refine codeAny_forLoop_any
    (fun k s' => ∃ i h' tk m' news' old oe oi, s' = { s with heap := h', toks := tk } ∧ k = vs.length + 1 - i ∧ i ≤ vs.length ∧ IsEnum h' (it + 1) it ((i : Nat) : Int) old ∧ h'.IsListIter it l i ∧ Fr h₀ env.locals h' m' ∧ News h₀ env.locals h' ((it + 1, oe) :: (it, oi) :: news') ∧ (∀ p ∈ news', p.1 ≠ it + 1 ∧ p.1 ≠ it) ∧ J i m' news') ?_ (vs.length + 1)
    ⟨0, h0, s.toks, m₀, news, .none, oe0, oi0, rfl, rfl, Nat.zero_le _, he0, hit0, F0, N0, fun p hp => ⟨Nat.ne_of_lt (Nat.lt_succ_of_lt (hnlt p hp)), Nat.ne_of_lt (hnlt p hp)⟩, hj⟩
  · rintro k s' ⟨i, H, tk, m', news', old, oe, oi, rfl, rfl, hi, he', hit', F', N', off', hJ⟩
    have hl' : H.IsList l vs.toArray := News.isList N' (.tail _ (.tail _ (hl _ _ _ hJ)))
    have hle : l ≠ it + 1 := (off' _ (hl _ _ _ hJ)).1
    have hli : l ≠ it := (off' _ (hl _ _ _ hJ)).2
    by_cases hlt : i < vs.length
    · obtain ⟨v, hv⟩ : ∃ v, vs[i]? = some v := ⟨_, List.getElem?_eq_getElem hlt⟩
      have heH : it + 1 < H.objs.size := Heap.lt_size he'
      have hLH : env.locals < H.objs.size := F'.ns.lt
      have hiH : it < H.objs.size := Nat.lt_trans (Nat.lt_succ_self _) heH
      refine wpAny_pyNext_enum_item he' hit' hl' (x := v) (by simpa using hv) hne fun h₁ heo hit₁ ht₁ hz₁ hk₁ => ?_
      refine wpAny_letOwnedTupleGo_enum heo fun h₂ he₂ hs₂ => ?_
      have ht₂ : h₂.IsTuple H.objs.size #[.int i tk, v] := ⟨_, (hs₂.2 _ (Nat.ne_of_gt heH)).trans ht₁, rfl, _, rfl⟩
      have hz₂ : h₂.objs.size = H.objs.size + 1 := hs₂.1.trans hz₁
      refine wpAny_assign_Tuple hh ht₂ rfl rfl fun h₃ hx₃ => ?_
      have old₃ : ∀ b o, b < H.objs.size → h₂.get? b = some o → h₃.get? b = some o := fun b o hb x => hx₃ b o (by
        show b ≠ h₂.objs.size
        rw [hz₂]; exact Nat.ne_of_lt (Nat.lt_succ_of_lt hb)) x
      have keep3 : ∀ b o, b ≠ it + 1 → b ≠ it → H.get? b = some o → h₃.get? b = some o := fun b o hb hb' x => old₃ b o (Heap.lt_size x) (hs₂.extBut b o hb (hk₁ b o hb hb' x))
      have he3 : h₃.get? (it + 1) = some _ := old₃ _ _ heH he₂
      obtain ⟨oi₁, hoi₁, ci₁, di₁⟩ := id hit₁
      have hi3 : h₃.get? it = some oi₁ := old₃ _ _ hiH (hs₂.extBut it _ hne.symm hoi₁)
      have F3 : Fr h₀ env.locals h₃ m' := ⟨F'.ns.at' fun o x => keep3 _ o heL.symm hiL.symm x, fun b o e => keep3 b o (fun q => by rw [q, (N' _ (.head _)).2.2] at e; cases e) (fun q => by rw [q, (N' _ (.tail _ (.head _))).2.2] at e; cases e) (F'.keep b o e), F'.above⟩
      have N3 : News h₀ env.locals h₃ ((it + 1, _) :: (it, oi₁) :: news') := fun p hp => by
        rcases List.mem_cons.mp hp with rfl | hp
        · exact ⟨he3, (N' _ (.head _)).2⟩
        · rcases List.mem_cons.mp hp with rfl | hp
          · exact ⟨hi3, (N' _ (.tail _ (.head _))).2⟩
          · exact ⟨keep3 _ _ (off' p hp).1 (off' p hp).2 (N' p (.tail _ (.tail _ hp))).1, (N' p (.tail _ (.tail _ hp))).2⟩
      show wpAny _ A (do holding [v] (assign (.Name xi pi) env (.int i tk)); do holding [] (assign (.Name xv pv) env v); pure ()) _ _ _
      refine wpAny_bind (wpAny_holding (wpAny_assign_Name (wpAny_storeName_local hxi F3.ns (fun h₄ hn₄ hs₄ => ?_) hp)))
      have F4 := F3.set hn₄ hs₄
      have N4 := N3.set hs₄
      refine wpAny_bind (wpAny_holding (wpAny_assign_Name (wpAny_storeName_local hxv F4.ns (fun h₅ hn₅ hs₅ => wpAny_pure ?_) hp)))
      have F5 := F4.set hn₅ hs₅
      have N5 := N4.set hs₅
      refine wpAny_passesOwn hE (wpAny_mono (turn i v _ m' news' h₅ _ _ _ _ _ hv hJ off' hne F5 N5) (fun f s₃ p => ?_) fun _ _ e => e)
      obtain ⟨rfl, h6, tk6, m6, news6, rfl, F6, N6, o6, j6⟩ := p
      refine ⟨vs.length + 1 - (i + 1), by omega, i + 1, h6, tk6, m6, news6, v, _, _, rfl, rfl, hlt, ?_, ?_, F6, N6, o6, j6⟩
      · have : ((i + 1 : Nat) : Int) = (i : Int) + 1 := by push_cast; rfl
        rw [this]; exact (N6 _ (.head _)).1
      · exact ⟨oi₁, (N6 _ (.tail _ (.head _))).1, ci₁, di₁⟩
    · obtain rfl : i = vs.length := by omega
      refine wpAny_pyNext_enum_end hh he' hit' hl' (by simp) fun h₁ he₁ => wpAny_execs_nil ?_
      refine done m' news' h₁ tk hJ ⟨F'.ns.at' fun o e => he₁ _ o hiL.symm e, fun b o e => he₁ b o (fun q => by rw [q, (N' _ (.tail _ (.head _))).2.2] at e; cases e) (F'.keep b o e), F'.above⟩ fun p hp => ?_
      exact ⟨he₁ _ _ (off' p hp).2 (N' p (.tail _ (.tail _ hp))).1, (N' p (.tail _ (.tail _ hp))).2⟩
end
theorem anew_Th : True := by
  w_top off
  exact True.intro
def IntsL (vs : List Value) : Prop := ∀ (i : Nat) (v : Value), vs[i]? = some v → ∃ z t, v = .int z t
/-- As Does, where a list lies in the ground. -/
def DoesI (w : World) (p : Program) (loose : List Str) (mean : PySem.ExcName → Option Value) (mg mb : Str → Option Value) (ax : Addr) (its : List Value) (f : Addr) (D U : Nat) (args : List Value) (kw : List (Str × Value)) (news : List (Addr × Obj)) (Post : Value → List (Addr × Obj) → Prop) : Prop :=
  ∀ (dp un : Nat) (gd : Option (List Code)) (cn : Str) (cs : Scope) (a : Addr) (ccd : Value) (cl : List (Str × Addr)) (outer : List Env) (A₀ : Around) (base h₀ : Heap) (L : Addr) (m : Str → Option Value) (s : Shared) (Q E : Value → Shared → Prop),
    h₀.IsList ax its.toArray → Below A₀ base outer h₀ → Fr h₀ L s.heap m → (hd.heap_1 w.params).In h₀ → Top p loose mean mg mb h₀ → cs.kind = .function → dp + D < recursionLimit → un + U < cLine → News h₀ L s.heap news →
    (∀ r news' h' tk', Fr h₀ L h' m → News h₀ L h' news' → Post r news' → Q r { s with heap := h', toks := tk' }) →
    wpAny (model PySem.Challenge.rw_xp0010_01.row.prog w) (ktrTop dp un gd cn cs L a ccd cl outer) (call (.ref f) args kw) Q E s
theorem slicePick_mem {items : Array Value} {lo hi st : Option Int} {v : Value} (h : v ∈ slicePick items lo hi st) : v ∈ items := by
  unfold slicePick at h
  simp only [List.mem_toArray, List.mem_filterMap] at h
  obtain ⟨j, _, hj⟩ := h
  exact Array.mem_of_getElem? hj
def ThJ (D sl : Addr) (so : Obj) (rest : List (Addr × Obj)) (i : Nat) (m : Str → Option Value) (news : List (Addr × Obj)) : Prop :=
  ∃ vs ns, m "cells" = some (.ref D) ∧ news = (D, listObj vs 0) :: (sl, so) :: rest ∧ ns.length = 6 ∧ IntsAre vs ns
theorem ints_at {vs : List Value} {ns : List Int} (h : IntsAre vs ns) : vs.length = ns.length ∧ IntsL vs := by
  induction h with
  | nil => exact ⟨rfl, fun i v h => by simp at h⟩
  | cons z t _ ih =>
    refine ⟨by simp [ih.1], fun i v h => ?_⟩
    cases i with
    | zero => simp at h; exact ⟨z, t, h.symm⟩
    | succ i => simp at h; exact ih.2 i v h
theorem sign_item : ∀ k < 3, Txt.item (Str.ofString "-<>") ((k : Nat) : Int) = ⟨#[sgn k]⟩ := by decide +kernel
theorem sign_fits : ∀ k < 3, fitsSsize ((k : Nat) : Int) = true := by decide +kernel
/-- What a number tells: the figures of its remainder by 9. -/
theorem sign_of {prog : Program} {w : World} {A : Around} {E : Value → Shared → Prop} {s : Shared} {value slice : Expr} {t u : Tok} {i : Int} {k : Nat} {Q : Value → Shared → Prop} (hi : i = (k : Int)) (hk : k < 3) (h : ∀ t', Q (.str ⟨#[sgn k]⟩ t') { s with toks := s.toks + 1 })
    (hs : ∀ j, subscripted slice false (.str (Str.ofString "-<>") t) (.int j u) = operate [.str (Str.ofString "-<>") t, .int j u] (getItem (.str (Str.ofString "-<>") t) (.int j u)))
    (ht : ∀ r, letTemporaryGo value (.str (Str.ofString "-<>") t) r = pure ()) : wpAny (model prog w) A (subscriptTail value slice (.str (Str.ofString "-<>") t) (.int i u)) Q E s := by
  subst hi
  have e3 : (Str.ofString "-<>").length = 3 := rfl
  refine item_str (sign_fits k hk) (by rw [e3]; omega) (by rw [e3]; omega) (fun _ => ?_) (hs _) ht
  rw [sign_item k hk]
  exact h _
theorem things_paired {vs ys : List Value} (h : Paired (fun (_ : Value) y => ∃ n t', n < 9 ∧ y = .str (th n) t') vs ys) : ∃ ns, ns.length = vs.length ∧ ThAre ys ns := by
  induction h with
  | nil => exact ⟨[], rfl, .nil⟩
  | cons hf _ ih =>
    obtain ⟨n, t, hn, rfl⟩ := hf
    obtain ⟨ns, hl, ht⟩ := ih
    exact ⟨n :: ns, by simp [hl], .cons n t hn ht⟩
theorem things_does (w : World) (p : Program) (loose : List Str) (mean : PySem.ExcName → Option Value) (mg mb : Str → Option Value) (ax : Addr) (its : List Value) (rest : List (Addr × Obj))
    (hits : IntsL its) (hlen : its.length ≤ 1000) :
    DoesI w p loose mean mg mb ax its 148 7 96 [.ref ax] [] rest (fun r news' => ∃ R vs ns nR, r = .ref R ∧ news' = (R, listObj vs nR) :: rest ∧ ThAre vs ns ∧ ns.length = 6 ∧ ∀ p ∈ rest, p.1 ≠ R) := by
  unfold DoesI
  k_fill
  intro dp un gd cn cs a ccd cl outer A₀ base h₀ L m s Q E hl0 B F X T hk hd hu N hret
  refine wpAny_call ?_
  (k_dflt (refine' code_def ?k1 ?k2 ?k3 ?k4 ?k5 ?kA ?kF ?kK ?k6 ?k7 ?k8 ?k9 ?kB ?_ ?c2 ?c3 ?c4 ?c5; (case kA => exact rfl); (case kF => exact rfl); (case kK => assumption); (case k1 => k_asm); (case k2 => k_asm); (case k3 => k_asm); (case k4 => k_asm); (case k5 => k_asm); (case k6 => k_is); (case k7 => k_is); (case k8 => ktr_room); (case k9 => first | exact BindsTo.of_eq rfl | exact binds_K (by k_in) rfl (by k_is) rfl rfl rfl | (refine' kp_binds ?kx ?ke; (case kx => k_in); (case ke => exact fun _ => rfl))); (case c5 => decide); (case kB => exact locs rfl); (case c2 => exact rfl); (case c3 => exact rfl); (case c4 => exact rfl); k_whole; intro _ _ _ _ _ _ _ _ _; (try dsimp only); (try k_fold)))
  rename_i g1 L1 h1 FG1 F1 N1 B1 X1 T1
  have hl1 : g1.IsList ax its.toArray := hl0.at fun o e => FG1.keep _ o e
  (repeat' (first | (k_unfold; (try dsimp only)) | ((((fail_if_success (with_reducible show wpAny _ _ (exec (Stmt.While _ _ _ _) _) _ _ _)); (fail_if_success (with_reducible show wpAny _ _ (exec (Stmt.For _ _ _ _ _) _) _ _ _)); (fail_if_success (with_reducible show wpAny _ _ (pyIter _) _ _ _)))); walk1) | ((((fail_if_success (with_reducible show wpAny _ _ (exec (Stmt.While _ _ _ _) _) _ _ _)); (fail_if_success (with_reducible show wpAny _ _ (exec (Stmt.For _ _ _ _ _) _) _ _ _)); (fail_if_success (with_reducible show wpAny _ _ (pyIter _) _ _ _)))); dsimp only; walk1) | fail "no step"))
  refine wpAny_For ?_ (fun _ => rfl)
  (repeat' (first | (k_unfold; (try dsimp only)) | ((((fail_if_success (with_reducible show wpAny _ _ (exec (Stmt.While _ _ _ _) _) _ _ _)); (fail_if_success (with_reducible show wpAny _ _ (exec (Stmt.For _ _ _ _ _) _) _ _ _)); (fail_if_success (with_reducible show wpAny _ _ (pyIter _) _ _ _)))); walk1) | ((((fail_if_success (with_reducible show wpAny _ _ (exec (Stmt.While _ _ _ _) _) _ _ _)); (fail_if_success (with_reducible show wpAny _ _ (exec (Stmt.For _ _ _ _ _) _) _ _ _)); (fail_if_success (with_reducible show wpAny _ _ (pyIter _) _ _ _)))); dsimp only; walk1) | fail "no step"))
  rename_i D h2 lD h3 F3 N3 tk3 htk3 h4 F4 N4
  have hslD : D ≠ h3.objs.size + 1 := Nat.ne_of_lt (Nat.lt_succ_of_lt (Heap.lt_size (N3 _ (.head _)).1))
  have hslr : ∀ p ∈ rest, p.1 ≠ h3.objs.size + 1 := fun p hp => Nat.ne_of_lt (Nat.lt_succ_of_lt (Heap.lt_size (N3 _ (.tail _ hp)).1))
  have N5 : News g1 L1 h4 ((D, _) :: (h3.objs.size + 1, listObj (slicePick its.toArray none (some 60) none).toList 0) :: rest) := News.swap N4
  clear N4
  generalize h3.objs.size + 1 = sl at hslD hslr N5 ⊢
  have hsi : IntsL (slicePick its.toArray none (some 60) none).toList := fun i v hv => by
    have h1 : v ∈ its := by
      have := slicePick_mem (Array.mem_toList_iff.mp (List.mem_of_getElem? hv))
      simpa using this
    obtain ⟨j, hj⟩ := List.mem_iff_getElem?.mp h1
    exact hits j v hj
  generalize (slicePick its.toArray none (some 60) none).toList = sv at hsi N5 ⊢
  refine loop_enum (l := sl) (vs := sv) (nn := 0) (ThJ D sl (listObj sv 0) rest) rfl F4 N5 ⟨_, [4, 2, 7, 4, 1, 5], by walk_at "m_look", rfl, rfl, ?_⟩ ?_ rfl rfl rfl ?_ ?_
  · exact .cons _ _ (.cons _ _ (.cons _ _ (.cons _ _ (.cons _ _ (.cons _ _ .nil)))))
  · rintro i m₁ news₁ ⟨vs, ns, hc, rfl, hv6, hvi⟩
    exact .tail _ (.head _)
  · rintro i v tt m₁ news₁ h tk e oe it oi hv ⟨vs, ns, hc, rfl, hv6, hvi⟩ hoff hne F₁ N₁
    have hoff' : ∀ vs', ∀ p ∈ (D, listObj vs' 0) :: (sl, listObj sv 0) :: rest, p.1 ≠ e ∧ p.1 ≠ it := fun vs' p hp => by
      rcases List.mem_cons.mp hp with rfl | hp
      · exact hoff (D, listObj vs 0) (.head _)
      · exact hoff p (.tail _ hp)
    obtain ⟨z, tz, rfl⟩ := hsi i v hv
    have hvl := (ints_at hvi).1
    have N₂ : News g1 L1 h ((D, listObj vs 0) :: (e, oe) :: (it, oi) :: (sl, listObj sv 0) :: rest) := News.sub N₁ fun p hp => by
      simp only [List.mem_cons] at hp ⊢
      rcases hp with h | h | h | h | h <;> simp only [h, true_or, or_true]
    clear N₁
    have N₂' : News g1 L1 h ((D, W.listOf vs.toArray 0) :: (e, oe) :: (it, oi) :: (sl, listObj sv 0) :: rest) := N₂
    clear N₂
    have oD : D ≠ e ∧ D ≠ it := hoff _ (.head _)
    (repeat' (first | (k_unfold; (try dsimp only)) | ((((fail_if_success (with_reducible show wpAny _ _ (exec (Stmt.While _ _ _ _) _) _ _ _)); (fail_if_success (with_reducible show wpAny _ _ (exec (Stmt.For _ _ _ _ _) _) _ _ _)); (fail_if_success (with_reducible show wpAny _ _ (pyIter _) _ _ _)))); walk1) | ((((fail_if_success (with_reducible show wpAny _ _ (exec (Stmt.While _ _ _ _) _) _ _ _)); (fail_if_success (with_reducible show wpAny _ _ (exec (Stmt.For _ _ _ _ _) _) _ _ _)); (fail_if_success (with_reducible show wpAny _ _ (pyIter _) _ _ _)))); dsimp only; walk1) | fail "no step"))
    have e6 : (i : Int).fmod 6 = ((i % 6 : Nat) : Int) := by rw [Int.fmod_eq_emod_of_nonneg _ (by decide)]; omega
    rw [e6]
    have h6 : ((i % 6 : Nat) : Int) < ns.length := by omega
    have h63 : ((i % 6 : Nat) : Int) < 2 ^ 63 := by omega
    k_dflt (refine' ksa_set ?zf ?zn ?zu hvi ?z0 h6 h63 ?_; (case zf => k_asm); (case zn => exact N₂'); (case zu => exact Upd.head (off_cons oD.1.symm (off_cons oD.2.symm (off_cons hslD.symm fun p hp => Nat.ne_of_lt (lD p hp))))); (case z0 => omega))
    intro h' F' N' hi' hl' _
    clear N₂'
    (repeat' (first | (k_unfold; (try dsimp only)) | ((((fail_if_success (with_reducible show wpAny _ _ (exec (Stmt.While _ _ _ _) _) _ _ _)); (fail_if_success (with_reducible show wpAny _ _ (exec (Stmt.For _ _ _ _ _) _) _ _ _)); (fail_if_success (with_reducible show wpAny _ _ (pyIter _) _ _ _)))); walk1) | ((((fail_if_success (with_reducible show wpAny _ _ (exec (Stmt.While _ _ _ _) _) _ _ _)); (fail_if_success (with_reducible show wpAny _ _ (exec (Stmt.For _ _ _ _ _) _) _ _ _)); (fail_if_success (with_reducible show wpAny _ _ (pyIter _) _ _ _)))); dsimp only; walk1) | fail "no step"))
    have N'' : News g1 L1 h' ((e, oe) :: (it, oi) :: (D, _) :: (sl, listObj sv 0) :: rest) := News.sub N' fun p hp => by
      simp only [List.mem_cons] at hp ⊢
      rcases hp with h | h | h | h
      · simp only [h, true_or, or_true]
      · simp only [h, true_or, or_true]
      · exact .inl h
      · rcases h with h | h <;> simp only [h, true_or, or_true]
    exact ⟨rfl, h', _, _, _, rfl, by k_asm, N'', hoff' _, _, _, by walk_at "m_look", rfl, by rw [hl']; exact hv6, hi'⟩
  · rintro m₁ news₁ h tk ⟨vs, ns, hc, rfl, hv6, hvi⟩ F₁ N₁
    obtain ⟨hvl, hvz⟩ := ints_at hvi
    (repeat' (first | (k_unfold; (try dsimp only)) | ((((fail_if_success (with_reducible show wpAny _ _ (exec (Stmt.While _ _ _ _) _) _ _ _)); (fail_if_success (with_reducible show wpAny _ _ (exec (Stmt.For _ _ _ _ _) _) _ _ _)); (fail_if_success (with_reducible show wpAny _ _ (pyIter _) _ _ _)))); walk1) | ((((fail_if_success (with_reducible show wpAny _ _ (exec (Stmt.While _ _ _ _) _) _ _ _)); (fail_if_success (with_reducible show wpAny _ _ (exec (Stmt.For _ _ _ _ _) _) _ _ _)); (fail_if_success (with_reducible show wpAny _ _ (pyIter _) _ _ _)))); dsimp only; walk1) | fail "no step"))
    k_dflt (refine comp_L (vs := vs) (nn := 0) (Fv := fun v y => ∃ n t', n < 9 ∧ y = .str (th n) t') rfl (by k_asm) (by k_asm) (.head _) (by omega) ?he ?hq)
    case he =>
      intro C i v s₃ m₃ E' hv hn hx hk3 ht
      obtain ⟨z, tz, rfl⟩ := hvz i v hv
      obtain ⟨n, hn9, e9⟩ : ∃ n : Nat, n < 9 ∧ z.fmod 9 = (n : Int) := ⟨(z.fmod 9).toNat, by rw [Int.fmod_eq_emod_of_nonneg _ (by decide)]; omega, by rw [Int.fmod_eq_emod_of_nonneg _ (by decide)]; omega⟩
      have ea : (z.fmod 9).fdiv 3 = ((n / 3 : Nat) : Int) := by rw [e9, Int.fdiv_eq_ediv_of_nonneg _ (by decide)]; omega
      have eb : z.fmod 3 = ((n % 3 : Nat) : Int) := by
        rw [Int.fmod_eq_emod_of_nonneg _ (by decide)] at e9 ⊢; omega
      refine wpAny_BinOp (Subscript_ (wpAny_Constant_str (wpAny_BinOp (wpAny_BinOp (wpAny_Name (wpAny_loadName_local rfl rfl hn hx (wpAny_Constant_int (mod_int (by decide) (wpAny_Constant_int (floordiv_int (by decide) ?_))))) (by decide))))))
      refine sign_of ea (by omega) (fun t1 => ?_) (fun j => by with_unfolding_all rfl) (fun r => by with_unfolding_all rfl)
      refine Subscript_ (wpAny_Constant_str (wpAny_BinOp (wpAny_Name (wpAny_loadName_local rfl rfl hn hx (wpAny_Constant_int (mod_int (by decide) ?_))) (by decide))))
      refine sign_of eb (by omega) (fun t2 => ?_) (fun j => by with_unfolding_all rfl) (fun r => by with_unfolding_all rfl)
      refine PyProof.Rows.add_str (fun t' tk => ?_) (by rw [sizeLine_eq]; show 1 + 1 ≤ _; omega)
      exact ⟨⟨n, t', hn9, rfl⟩, ⟨_, _, rfl, fun _ _ e => e⟩⟩
    case hq =>
      intro D2 ys n' h7 tk7 hP F7 N7 o7
      (repeat' (first | (k_unfold; (try dsimp only)) | ((((fail_if_success (with_reducible show wpAny _ _ (exec (Stmt.While _ _ _ _) _) _ _ _)); (fail_if_success (with_reducible show wpAny _ _ (exec (Stmt.For _ _ _ _ _) _) _ _ _)); (fail_if_success (with_reducible show wpAny _ _ (pyIter _) _ _ _)))); walk1) | ((((fail_if_success (with_reducible show wpAny _ _ (exec (Stmt.While _ _ _ _) _) _ _ _)); (fail_if_success (with_reducible show wpAny _ _ (exec (Stmt.For _ _ _ _ _) _) _ _ _)); (fail_if_success (with_reducible show wpAny _ _ (pyIter _) _ _ _)))); dsimp only; walk1) | fail "no step"))
      rename News h₀ L h7 _ => Nz
      rename Fr h₀ L h7 _ => Fz
      have hPl := paired_get hP
      obtain ⟨ns', hns, hth⟩ := things_paired hP
      refine hret _ _ _ _ Fz (News.sub Nz fun p hp => ?_) ⟨D2, ys, ns', n', rfl, rfl, hth, by rw [hns, hvl]; exact hv6, fun p hp => o7 p (.tail _ (.tail _ hp))⟩
      simp only [List.mem_cons] at hp ⊢
      rcases hp with h | h <;> simp only [h, true_or, or_true]
  all_goals first | exact default | fail "left"
theorem anew_CS : True := by
  w_top off
  exact True.intro
section
variable {prog : Program} {w : World} {A : Around} {E : Value → Shared → Prop} {s : Shared} {h₀ : Heap} {L : Addr} {m : Str → Option Value} {news : List (Addr × Obj)} {env : Env} {scope : Scope} {x : Str} {elt : Expr} {cl : List (Str × Addr)}
/-- A comprehension over a text, that closes over names, whose elements make no lasting thing. -/
theorem comp_S {x0 : Str} {t : Tok} {Fv : Nat → Value → Prop} {Q : Value → Shared → Prop} (hh : A.handled = none) (F : Fr h₀ L s.heap m) (N : News h₀ L s.heap news) (hz : x0.length ≤ 1000)
    (he : ∀ C (i c : Nat) (u : Tok) (s₃ : Shared) m₃ E', x0.cps[i]? = some c → s₃.heap.Ns C m₃ → m₃ x = some (.str ⟨#[c]⟩ u) → (∀ b o, s.heap.get? b = some o → s₃.heap.get? b = some o) → wpAny (model prog w) A (eval elt (compEnvC scope cl C env)) (fun y s₄ => Fv c y ∧ Keeps s₃ s₄) E' s₃)
    (h : ∀ D ys n' h' tk, ys.length = x0.cps.size → (∀ (i c : Nat) (y : Value), x0.cps[i]? = some c → ys[i]? = some y → Fv c y) → Fr h₀ L h' m → News h₀ L h' ((D, listObj ys n') :: news) → (∀ p ∈ news, p.1 ≠ D) → Q (.ref D) { s with heap := h', toks := tk }) :
    wpAny (model prog w) A (pyIter (.str x0 t)) (fun it s₂ => ∃ I fp wr n P St, it = .ref I ∧ Walks prog w A I fp wr n P St ∧ n ≤ sizeLine ∧ St 0 s₂.heap ∧ (∀ b ∈ fp, b < s₂.heap.objs.size) ∧
      QuietOnC prog w A env scope cl x [] elt wr P (fun _ => true) (fun v y => ∃ c u, v = .str ⟨#[c]⟩ u ∧ Fv c y) s₂ ∧
      (∀ D h' tk ys (vs : List Value), s₂.heap.get? D = none → h'.IsList D ys → h'.PlainList D ys → vs.length = n → (∀ j v, vs[j]? = some v → P j v) → Paired (fun v y => ∃ c u, v = .str ⟨#[c]⟩ u ∧ Fv c y) (vs.filter fun _ => true) ys.toList →
        (∀ b o, b ∉ wr → s₂.heap.get? b = some o → h'.get? b = some o) → Q (.ref D) { s₂ with heap := h', toks := tk })) E s := by
  refine wpAny_pyIter_str fun oI St W hst => ?_
  refine ⟨_, _, _, _, _, _, rfl, W A hh, ?_, hst, fun b hb => ?_, ⟨fun C i v s₃ m₃ E' _ _ _ _ _ _ => ?_, fun C i v s₃ m₃ E' _ hP _ hn3 hx hk ht => ?_⟩, ?_⟩
  · rw [sizeLine_eq]; exact Nat.le_trans hz (by omega)
  · rw [List.mem_singleton.mp hb, Heap.size_push]
    exact Nat.lt_succ_self _
  · rw [List.forIn_nil]
    exact wpAny_pure ⟨rfl, ⟨_, _, rfl, fun _ _ e => e⟩⟩
  · obtain ⟨c, u, hc, rfl⟩ := hP
    refine wpAny_mono (he C i c u s₃ m₃ E' hc hn3 hx fun b o e => hk b o (fun q => ?_) (Heap.get?_push_of_some _ e)) (fun y s₄ p => ⟨⟨_, _, rfl, p.1⟩, p.2⟩) fun _ _ e => e
    rw [List.mem_singleton.mp q] at e
    exact absurd (Heap.lt_size e) (Nat.lt_irrefl _)
  · intro D h' tk ys ws hD _ hpl hwl hwp hpair hkeep
    obtain ⟨n', hDo⟩ := hpl
    rw [filter_tt] at hpair
    obtain ⟨hl, hp⟩ := paired_get hpair
    have k2 : ∀ b o, s.heap.get? b = some o → h'.get? b = some o := fun b o e => hkeep b o (fun q => by
      rw [List.mem_singleton.mp q] at e
      exact absurd (Heap.lt_size e) (Nat.lt_irrefl _)) (Heap.get?_push_of_some _ e)
    have hD0 : s.heap.get? D = none := by
      cases q : s.heap.get? D with
      | none => rfl
      | some o => have := Heap.get?_push_of_some oI q; rw [hD] at this; cases this
    have hnD : ∀ b o, s.heap.get? b = some o → b ≠ D := fun b o e q => by rw [q, hD0] at e; cases e
    obtain ⟨oL, es, ep, hL, r⟩ := F.ns
    refine h D ys.toList n' h' tk (by omega) (fun i c y hc hy => ?_) ⟨⟨oL, es, ep, k2 _ _ hL, r⟩, fun b o e => k2 b o (F.keep b o e), F.above⟩ (fun p hp => ?_) fun p hp => hnD _ _ (N p hp).1
    · have hi : i < ws.length := by rw [hl]; exact (List.getElem?_eq_some_iff.mp hy).1
      obtain ⟨v, hv⟩ : ∃ v, ws[i]? = some v := ⟨_, List.getElem?_eq_getElem hi⟩
      obtain ⟨c', u, hc', rfl⟩ := hwp i v hv
      obtain ⟨c'', u', e, q⟩ := hp i _ y hv hy
      have e1 : c' = c := Option.some.inj (hc'.symm.trans hc)
      have e2 := congrArg (fun v => match v with | Value.str x _ => x.cps[0]? | _ => none) e
      simp at e2
      rw [← e1, e2]
      exact q
    · rcases List.mem_cons.mp hp with rfl | hp
      · refine ⟨by rw [hDo, Array.toArray_toList], (hnD _ _ hL).symm, ?_⟩
        cases q : h₀.get? D with
        | none => rfl
        | some o => rw [F.keep _ _ q] at hD0; cases hD0
      · exact ⟨k2 _ _ (N p hp).1, (N p hp).2⟩
theorem ListComp_S {m₀ : Str → Option Value} {px pn spos : Pos} {nm : Str} {x0 : Str} {t : Tok} {Fv : Nat → Value → Prop} {Q : Value → Shared → Prop} (hh : A.handled = none) (F : Fr h₀ env.locals s.heap m₀) (N : News h₀ env.locals s.heap news) (hnm : m₀ nm = some (.str x0 t)) (hz : x0.length ≤ 1000)
    (hclos : closureFor scope env = pure cl) (hcell : ∀ y ∈ scope.names, y.2 ≠ .cell) (hkind : scope.kind = .function)
    (hnames : ∀ y ∈ scope.names, y.2 = .local → scope.names.lookup y.1 = some .local) (hx : scope.names.lookup x = some .local) (hk : env.scope.kind = .function) (hkn : env.kindOf nm = some .local) (hd : (nm == ("__debug__" : Str)) = false)
    (he : ∀ C (i c : Nat) (u : Tok) (s₃ : Shared) m₃ E', x0.cps[i]? = some c → s₃.heap.Ns C m₃ → m₃ x = some (.str ⟨#[c]⟩ u) → (∀ b o, s.heap.get? b = some o → s₃.heap.get? b = some o) → wpAny (model prog w) A (eval elt (compEnvC scope cl C env)) (fun y s₄ => Fv c y ∧ Keeps s₃ s₄) E' s₃)
    (h : ∀ D ys n' h' tk, ys.length = x0.cps.size → (∀ (i c : Nat) (y : Value), x0.cps[i]? = some c → ys[i]? = some y → Fv c y) → Fr h₀ env.locals h' m₀ → News h₀ env.locals h' ((D, listObj ys n') :: news) → (∀ p ∈ news, p.1 ≠ D) → Q (.ref D) { s with heap := h', toks := tk }) :
    wpAny (model prog w) A (eval (.ListComp elt [⟨.Name x px, .Name nm pn, [], 0⟩] scope spos) env) Q E s :=
  wpAny_ListComp_free (fun _ => true) (fun v y => ∃ c u, v = .str ⟨#[c]⟩ u ∧ Fv c y) hclos hcell hkind hnames hx
    (wpAny_Name (wpAny_loadName_local hk hkn F.ns hnm (comp_S hh F N hz he h)) hd)
end
theorem one_eq {a c : Nat} : ((⟨#[a]⟩ : Str) = ⟨#[c]⟩) ↔ a = c := by
  constructor
  · intro h
    have := congrArg (fun s : Str => s.cps[0]?) h
    simpa using this
  · intro h; rw [h]
theorem three_at {v1 v2 v3 : Value} (c : Nat) : valueAt [((⟨#[38]⟩ : Str), v1), (⟨#[60]⟩, v2), (⟨#[62]⟩, v3)] ⟨#[c]⟩ = if c = 38 then some v1 else if c = 60 then some v2 else if c = 62 then some v3 else none := by
  unfold valueAt
  simp only [List.find?_cons, List.find?_nil, one_eq]
  by_cases h1 : c = 38
  · subst h1; simp
  · by_cases h2 : c = 60
    · subst h2; simp
    · by_cases h3 : c = 62
      · subst h3; simp
      · have a1 : ¬ 38 = c := fun e => h1 e.symm
        have a2 : ¬ 60 = c := fun e => h2 e.symm
        have a3 : ¬ 62 = c := fun e => h3 e.symm
        simp [h1, h2, h3, a1, a2, a3]
theorem strs_of_get {xs : List Str} : ∀ {vs : List Value}, vs.length = xs.length → (∀ (i : Nat) (x : Str), xs[i]? = some x → ∃ t, vs[i]? = some (.str x t)) → StrsAre vs xs := by
  induction xs with
  | nil =>
    intro vs hl _
    cases vs with
    | nil => exact .nil
    | cons v vs => simp at hl
  | cons x xs ih =>
    intro vs hl h
    cases vs with
    | nil => simp at hl
    | cons v vs =>
      obtain ⟨t, e⟩ := h 0 x rfl
      simp at e
      subst e
      exact .cons x t (ih (by simpa using hl) fun i k hk => by simpa using h (i + 1) k (by simpa using hk))
theorem nm_join (l : List Nat) : Txt.join (Str.ofString "") (l.map fun c => ⟨(nm c).toArray⟩) = ⟨(escL l).toArray⟩ := by
  cases l with
  | nil => rfl
  | cons c l =>
    have e : (Str.ofString "").cps.toList = [] := rfl
    refine congrArg Str.mk (Array.ext' ?_)
    refine (glued_list _ _ _).trans ?_
    rw [e, List.flatMap_map]
    simp [escL]
theorem nm_le (c : Nat) : (nm c).length ≤ 5 := by unfold nm; split <;> (try split) <;> (try split) <;> simp
theorem nm_sum (l : List Nat) : ((l.map fun c => (⟨(nm c).toArray⟩ : Str)).map (fun x => x.length)).sum + (l.map fun c => (⟨(nm c).toArray⟩ : Str)).length ≤ 6 * l.length := by
  induction l with
  | nil => simp
  | cons c l ih =>
    have h1 : (⟨(nm c).toArray⟩ : Str).length ≤ 5 := by show Array.size _ ≤ 5; rw [List.size_toArray]; exact nm_le c
    simp only [List.map_cons, List.sum_cons, List.length_cons] at ih ⊢
    omega
theorem anew_Sp : True := by
  w_top off
  exact True.intro
set_option compiler.extract_closed false in
local macro_rules | `(tactic| walk_at "mine enterC") => `(tactic| k_dflt (refine' code_defC ?k1 ?k2 ?k3 ?k4 ?k5 ?kA ?kF ?kK ?k6 ?k7 ?k8 ?k9 ?kB ?kD ?_ ?c2 ?c3 ?c4; (case kA => exact rfl); (case kF => exact rfl); (case kK => assumption); (case k1 => k_asm); (case k2 => k_asm); (case k3 => k_asm); (case k4 => k_asm); (case k5 => k_asm); (case k6 => k_is); (case k7 => k_is); (case k8 => ktr_room); (case k9 => first | exact BindsTo.of_eq rfl | exact binds_K (by k_in) rfl (by k_is) rfl rfl rfl); (case kB => exact rfl); (case kD => decide +kernel); (case c2 => exact rfl); (case c3 => exact rfl); (case c4 => exact rfl); k_whole; intro g' L' h' tk' cells' FG' F' N' Y' B' X' T' l1; k_cells Y'; (try simp only [List.cons_append, List.nil_append] at N'); (try dsimp only); (try k_fold)))
theorem spelled_does (w : World) (p : Program) (loose : List Str) (mean : PySem.ExcName → Option Value) (mg mb : Str → Option Value) (x : Str) (tx : Tok) (rest : List (Addr × Obj))
    (hx : x.length ≤ 100) :
    Does w p loose mean mg mb 193 7 96 [.str x tx] [] rest (fun r news' => ∃ t, r = .str (escS x) t ∧ news' = rest) := by
  unfold Does
  k_fill
  intro dp un gd cn cs a ccd cl outer A₀ base h₀ L m s Q E B F X T hk hd hu N hret
  refine wpAny_call ?_
  walk_at "mine enterC"
  rename_i g1 L1 hE tkE FGE FE BE XE TE lE oc dC NE
  (repeat' (first | (k_unfold; (try dsimp only)) | ((fail_if_success (with_reducible show wpAny _ _ (eval (Expr.ListComp _ _ _ _) _) _ _ _)); (((fail_if_success (with_reducible show wpAny _ _ (exec (Stmt.While _ _ _ _) _) _ _ _)); (fail_if_success (with_reducible show wpAny _ _ (exec (Stmt.For _ _ _ _ _) _) _ _ _)); (fail_if_success (with_reducible show wpAny _ _ (pyIter _) _ _ _)))); walk1) | ((fail_if_success (with_reducible show wpAny _ _ (eval (Expr.ListComp _ _ _ _) _) _ _ _)); (((fail_if_success (with_reducible show wpAny _ _ (exec (Stmt.While _ _ _ _) _) _ _ _)); (fail_if_success (with_reducible show wpAny _ _ (exec (Stmt.For _ _ _ _ _) _) _ _ _)); (fail_if_success (with_reducible show wpAny _ _ (pyIter _) _ _ _)))); dsimp only; walk1) | fail "no step"))
  rename_i h2 o2 F2 N2 lo2 hd2 ex2 of2 lt2
  generalize hE.objs.size = d at N2 lo2 of2 lt2 ⊢
  have N3 : News g1 L1 h2 ((L1 + 1, oc) :: (d, o2) :: rest) := News.swap N2
  clear N2
  obtain ⟨v1, v2, v3, hd3, w1, w2, w3⟩ : ∃ v1 v2 v3, o2.IsDictOf (PySem.strKind PySem.Challenge.rw_xp0010_01.row.prog w) [((⟨#[38]⟩ : Str), v1), (⟨#[60]⟩, v2), (⟨#[62]⟩, v3)] ∧ (∃ t, v1 = .str (Str.ofString "&amp;") t) ∧ (∃ t, v2 = .str (Str.ofString "&lt;") t) ∧ (∃ t, v3 = .str (Str.ofString "&gt;") t) :=
    ⟨_, _, _, hd2, ⟨_, rfl⟩, ⟨_, rfl⟩, ⟨_, rfl⟩⟩
  clear hd2
  refine storeX_C F2 N3 (by rfl) (UpdF.head (off_cons (Nat.ne_of_gt lt2.1) fun p hp => Nat.ne_of_lt (Nat.lt_succ_of_lt (lE p hp)))) dC fun h6 o6 F6 N6 d6 => ?_
  dsimp only
  (repeat' (first | (k_unfold; (try dsimp only)) | ((fail_if_success (with_reducible show wpAny _ _ (eval (Expr.ListComp _ _ _ _) _) _ _ _)); (((fail_if_success (with_reducible show wpAny _ _ (exec (Stmt.While _ _ _ _) _) _ _ _)); (fail_if_success (with_reducible show wpAny _ _ (exec (Stmt.For _ _ _ _ _) _) _ _ _)); (fail_if_success (with_reducible show wpAny _ _ (pyIter _) _ _ _)))); walk1) | ((fail_if_success (with_reducible show wpAny _ _ (eval (Expr.ListComp _ _ _ _) _) _ _ _)); (((fail_if_success (with_reducible show wpAny _ _ (exec (Stmt.While _ _ _ _) _) _ _ _)); (fail_if_success (with_reducible show wpAny _ _ (exec (Stmt.For _ _ _ _ _) _) _ _ _)); (fail_if_success (with_reducible show wpAny _ _ (pyIter _) _ _ _)))); dsimp only; walk1) | fail "no step"))
  refine ListComp_S (Fv := fun c y => ∃ t', y = .str ⟨(nm c).toArray⟩ t') rfl F6 N6 (by rfl) (Nat.le_trans hx (by decide)) (by rfl) (by decide) (by rfl) (by decide) (by rfl) (by rfl) (by rfl) (by decide) ?ze ?zh
  case ze =>
    intro C i c u s₃ m₃ E' hc hn3 hx3 hk3
    have hcell := hk3 _ _ (N6 _ (.head _)).1
    have hD : s₃.heap.DictOf (PySem.strKind PySem.Challenge.rw_xp0010_01.row.prog w) d [((⟨#[38]⟩ : Str), v1), (⟨#[60]⟩, v2), (⟨#[62]⟩, v3)] := Heap.dictOf_iff.mpr ⟨_, hk3 _ _ (N6 _ (.tail _ (.head _))).1, hd3⟩
    have hkey : (PySem.strKind PySem.Challenge.rw_xp0010_01.row.prog w).is ⟨#[c]⟩ (.str ⟨#[c]⟩ u) = true := by show ((⟨#[c]⟩ : Str) == ⟨#[c]⟩) = true; exact beq_self_eq_true _
    have hv := three_at (v1 := v1) (v2 := v2) (v3 := v3) c
    refine IfExp_ (wpAny_isTrue_Compare1 (wpAny_Name (wpAny_loadName_local rfl rfl hn3 hx3 (wpAny_Name (wpAny_loadName_cell rfl rfl rfl ⟨o6, hcell, d6⟩ ?_) (by decide))) (by decide)))
    refine wpAny_in_of hkey lo2 hD.mapOf (wpAny_truthy_bool ?_)
    by_cases h38 : c = 38
    · subst h38
      obtain ⟨t1, rfl⟩ := w1
      have hv' : valueAt [((⟨#[38]⟩ : Str), Value.str (Str.ofString "&amp;") t1), (⟨#[60]⟩, v2), (⟨#[62]⟩, v3)] ⟨#[38]⟩ = some _ := hv
      rw [hv', Option.isSome_some, if_pos rfl]
      refine Subscript_ (wpAny_Name (wpAny_loadName_cell rfl rfl rfl ⟨o6, hcell, d6⟩ (wpAny_Name (wpAny_loadName_local rfl rfl hn3 hx3 ?_) (by decide))) (by decide))
      exact subscriptTail_builtin hD.typeIs slot_dict_getitem.lookup (wpAny_getItem_of hkey hD.mapOf hv' ⟨⟨t1, rfl⟩, ⟨_, _, rfl, fun _ _ e => e⟩⟩) (by with_unfolding_all rfl) (fun r => by with_unfolding_all rfl)
    by_cases h60 : c = 60
    · subst h60
      obtain ⟨t1, rfl⟩ := w2
      have hv' : valueAt [((⟨#[38]⟩ : Str), v1), (⟨#[60]⟩, Value.str (Str.ofString "&lt;") t1), (⟨#[62]⟩, v3)] ⟨#[60]⟩ = some _ := hv
      rw [hv', Option.isSome_some, if_pos rfl]
      refine Subscript_ (wpAny_Name (wpAny_loadName_cell rfl rfl rfl ⟨o6, hcell, d6⟩ (wpAny_Name (wpAny_loadName_local rfl rfl hn3 hx3 ?_) (by decide))) (by decide))
      exact subscriptTail_builtin hD.typeIs slot_dict_getitem.lookup (wpAny_getItem_of hkey hD.mapOf hv' ⟨⟨t1, rfl⟩, ⟨_, _, rfl, fun _ _ e => e⟩⟩) (by with_unfolding_all rfl) (fun r => by with_unfolding_all rfl)
    by_cases h62 : c = 62
    · subst h62
      obtain ⟨t1, rfl⟩ := w3
      have hv' : valueAt [((⟨#[38]⟩ : Str), v1), (⟨#[60]⟩, v2), (⟨#[62]⟩, Value.str (Str.ofString "&gt;") t1)] ⟨#[62]⟩ = some _ := hv
      rw [hv', Option.isSome_some, if_pos rfl]
      refine Subscript_ (wpAny_Name (wpAny_loadName_cell rfl rfl rfl ⟨o6, hcell, d6⟩ (wpAny_Name (wpAny_loadName_local rfl rfl hn3 hx3 ?_) (by decide))) (by decide))
      exact subscriptTail_builtin hD.typeIs slot_dict_getitem.lookup (wpAny_getItem_of hkey hD.mapOf hv' ⟨⟨t1, rfl⟩, ⟨_, _, rfl, fun _ _ e => e⟩⟩) (by with_unfolding_all rfl) (fun r => by with_unfolding_all rfl)
    rw [hv, if_neg h38, if_neg h60, if_neg h62]
    rw [Option.isSome_none, if_neg Bool.false_ne_true]
    refine wpAny_Name (wpAny_loadName_local rfl rfl hn3 hx3 ⟨⟨u, ?_⟩, ⟨_, _, rfl, fun _ _ e => e⟩⟩) (by decide)
    unfold nm
    rw [if_neg h38, if_neg h60, if_neg h62]
  case zh =>
    intro D ys n' h7 tk7 hl hy F7 N7 o7
    (repeat' (first | (k_unfold; (try dsimp only)) | ((((fail_if_success (with_reducible show wpAny _ _ (exec (Stmt.While _ _ _ _) _) _ _ _)); (fail_if_success (with_reducible show wpAny _ _ (exec (Stmt.For _ _ _ _ _) _) _ _ _)); (fail_if_success (with_reducible show wpAny _ _ (pyIter _) _ _ _)))); walk1) | ((((fail_if_success (with_reducible show wpAny _ _ (exec (Stmt.While _ _ _ _) _) _ _ _)); (fail_if_success (with_reducible show wpAny _ _ (exec (Stmt.For _ _ _ _ _) _) _ _ _)); (fail_if_success (with_reducible show wpAny _ _ (pyIter _) _ _ _)))); dsimp only; walk1) | fail "no step"))
    have hsz : x.cps.size ≤ 100 := hx
    refine join_listW (ys := x.cps.toList.map fun c => ⟨(nm c).toArray⟩) (News.isList N7 (.head _)) (strs_of_get (by simpa using hl) fun i z hz => ?_) (by decide) (Nat.le_trans (nm_sum x.cps.toList) (by rw [Array.length_toList]; omega)) fun tj kj => ?_
    · rw [List.getElem?_map] at hz
      cases hc : x.cps.toList[i]? with
      | none => rw [hc] at hz; cases hz
      | some c =>
        rw [hc] at hz
        have hz' : (⟨(nm c).toArray⟩ : Str) = z := by simpa using hz
        have hc' : x.cps[i]? = some c := by simpa using hc
        obtain ⟨y, hy'⟩ : ∃ y, ys[i]? = some y := ⟨_, List.getElem?_eq_getElem (by have := (Array.getElem?_eq_some_iff.mp hc').1; omega)⟩
        obtain ⟨t', rfl⟩ := hy i c y hc' hy'
        exact ⟨t', by rw [List.toList_toArray, hy', hz']⟩
    · rw [nm_join]
      (repeat' (first | (k_unfold; (try dsimp only)) | ((((fail_if_success (with_reducible show wpAny _ _ (exec (Stmt.While _ _ _ _) _) _ _ _)); (fail_if_success (with_reducible show wpAny _ _ (exec (Stmt.For _ _ _ _ _) _) _ _ _)); (fail_if_success (with_reducible show wpAny _ _ (pyIter _) _ _ _)))); walk1) | ((((fail_if_success (with_reducible show wpAny _ _ (exec (Stmt.While _ _ _ _) _) _ _ _)); (fail_if_success (with_reducible show wpAny _ _ (exec (Stmt.For _ _ _ _ _) _) _ _ _)); (fail_if_success (with_reducible show wpAny _ _ (pyIter _) _ _ _)))); dsimp only; walk1) | fail "no step"))
      rename News h₀ L h7 _ => Nz
      rename Fr h₀ L h7 _ => Fz
      exact hret _ _ _ _ Fz (News.sub Nz fun p hp => .tail _ (.tail _ (.tail _ hp))) ⟨_, rfl, rfl⟩
theorem anew_Ss : True := by
  w_top off
  exact True.intro
/-- The unlike things of a row, in the order of their first coming. -/
def stepd (σ : List Nat) (v : Nat) : List Nat := if σ.contains v then σ else σ ++ [v]
def dstF (ns : List Nat) : List Nat := ns.foldl stepd []
theorem dstF_snoc (ns : List Nat) (v : Nat) : dstF (ns ++ [v]) = stepd (dstF ns) v := by simp [dstF]
theorem mem_stepd {σ : List Nat} {v k : Nat} : k ∈ stepd σ v ↔ k ∈ σ ∨ k = v := by
  unfold stepd
  split
  · rename_i h
    have h' : v ∈ σ := by simpa using h
    constructor
    · exact .inl
    · rintro (h | rfl)
      · exact h
      · exact h'
  · simp
theorem mem_dstF {ns : List Nat} {k : Nat} : k ∈ dstF ns ↔ k ∈ ns := by
  induction ns using snoc_ind with
  | h0 => simp [dstF]
  | h l x ih => rw [dstF_snoc, mem_stepd, ih]; simp
theorem dstF_le (ns : List Nat) : (dstF ns).length ≤ ns.length := by
  induction ns using snoc_ind with
  | h0 => simp [dstF]
  | h l x ih =>
    rw [dstF_snoc]
    unfold stepd
    split <;> simp <;> omega
theorem dst_any {σ : List Nat} {v : Nat} (h9 : ∀ k ∈ σ, k < 9) (hv : v < 9) : (σ.any fun k => th k == th v) = σ.contains v := by
  rw [Bool.eq_iff_iff, List.any_eq_true, List.contains_iff_mem]
  constructor
  · rintro ⟨k, hk, e⟩
    exact th_inj k (h9 k hk) v hv (eq_of_beq e) ▸ hk
  · exact fun h => ⟨v, h, beq_self_eq_true _⟩
section
variable {prog : Program} {w : World} {A : Around} {R : Result → Shared → Prop} {I : Addr} {fp wr : List Addr} {n : Nat} {P : Nat → Value → Prop} {St : Nat → Heap → Prop}
abbrev dSet (ns : List Nat) (i : Nat) : Str → Bool := fun x => (dstF (ns.take i)).any fun v => th v == x
theorem set_loop (W : Walks prog w A.in1 I fp wr n P St) (S : Addr) (hSf : S ∉ fp) (ns : List Nat) (hns : ns.length = n) (h9 : ∀ k ∈ ns, k < 9) (hval : ∀ i v, P i v → ∃ t, v = .str (th (ns.getD i 0)) t) (hb : n + 1 < scanBound) :
    ∀ (k i : Nat) (s : Shared), n - i = k → i ≤ n → St i s.heap → s.heap.SetOf (PySem.strKind prog w) S (dSet ns i) (dstF (ns.take i)).length →
      (∀ h' tk, (∀ b o, b ∉ S :: wr → s.heap.get? b = some o → h'.get? b = some o) → h'.SetOf (PySem.strKind prog w) S (dSet ns n) (dstF (ns.take n)).length → R (.ok (.ret .none)) { s with heap := h', toks := tk }) →
      codeAny (model prog w) A (.builtin "set.update.loop" ⟨[.ref S, .ref I], []⟩) R s := by
  have hSw : S ∉ wr := fun h => hSf (W.sub _ h)
  intro k
  induction k with
  | zero =>
    intro i s hk hi hst hS hR
    obtain rfl : i = n := by omega
    refine codeAny_builtin PyProof.Rows.F.entry_set_update_loop ?_
    rw [Around.under_plainId PyProof.Rows.F.plain_set_update_loop _]
    show wpAny _ A.in1 (pyNext (.ref I) >>= _) _ _ s
    refine wpAny_bind (W.done s _ _ hst fun h' tk hk => ?_)
    refine wpAny_pure (hR h' tk (fun b o hb e => hk b o (fun q => hb (List.mem_cons_of_mem _ q)) e) ?_)
    obtain ⟨o, es, ep, t, ho, r⟩ := hS
    exact ⟨o, es, ep, t, hk S o hSw ho, r⟩
  | succ k ih =>
    intro i s hk hi hst hS hR
    have hlt : i < n := by omega
    refine codeAny_builtin PyProof.Rows.F.entry_set_update_loop ?_
    rw [Around.under_plainId PyProof.Rows.F.plain_set_update_loop _]
    show wpAny _ A.in1 (pyNext (.ref I) >>= _) _ _ s
    refine wpAny_bind (W.item i s _ _ hlt hst fun v h1 tk1 hP hst1 hk1 => ?_)
    obtain ⟨t, rfl⟩ := hval i v hP
    have hget : ns[i]? = some (ns.getD i 0) := by
      rw [List.getD_eq_getElem?_getD, List.getElem?_eq_getElem (by omega)]; rfl
    generalize ns.getD i 0 = y at hget ⊢
    have hy9 : y < 9 := h9 y (List.mem_of_getElem? hget)
    have htk : ns.take (i + 1) = ns.take i ++ [y] := by rw [List.take_add_one, hget]; rfl
    have hd9 : ∀ k ∈ dstF (ns.take i), k < 9 := fun k hk => h9 k (List.mem_of_mem_take (mem_dstF.mp hk))
    have hS1 : h1.SetOf (PySem.strKind prog w) S (dSet ns i) (dstF (ns.take i)).length := by
      obtain ⟨o, es, ep, tb, ho, r⟩ := hS
      exact ⟨o, es, ep, tb, hk1 S o hSw ho, r⟩
    have hkey : (PySem.strKind prog w).is (th y) (.str (th y) t) = true := by show (th y == th y) = true; exact beq_self_eq_true _
    show wpAny _ A.in1 (holding [Value.str (th y) t] (setAdd S (.str (th y) t)) >>= _) _ _ _
    refine wpAny_bind (wpAny_holding ?_)
    unfold setAdd
    refine wpAny_holding ?_
    refine wpAny_bind ((PySem.strKind prog w).pyHash (k := th y) hkey ?_)
    have hroom : (dstF (ns.take i)).length + 1 < scanBound := by
      have := dstF_le (ns.take i)
      rw [List.length_take] at this; omega
    refine wpAny_setAddHashed_of (knd := PySem.strKind prog w) (s := { s with heap := h1, toks := tk1 + 1 }) hkey rfl hS1 hroom fun h2 hsb hS2 => ?_
    have hSi : h2.SetOf (PySem.strKind prog w) S (dSet ns (i + 1)) (dstF (ns.take (i + 1))).length := by
      refine SetOf_congr hS2 (fun x => ?_) ?_
      · show (((dstF (ns.take i)).any fun v => th v == x) || decide (x = th y)) = ((dstF (ns.take (i + 1))).any fun v => th v == x)
        rw [htk, dstF_snoc, Bool.eq_iff_iff, Bool.or_eq_true, List.any_eq_true, List.any_eq_true, decide_eq_true_eq]
        constructor
        · rintro (⟨k, hk, e⟩ | e)
          · exact ⟨k, mem_stepd.mpr (.inl hk), e⟩
          · exact ⟨y, mem_stepd.mpr (.inr rfl), by rw [e]; exact beq_self_eq_true _⟩
        · rintro ⟨k, hk, e⟩
          rcases mem_stepd.mp hk with hk | rfl
          · exact .inl ⟨k, hk, e⟩
          · exact .inr (eq_of_beq e).symm
      · show (if ((dstF (ns.take i)).any fun v => th v == th y) = true then (dstF (ns.take i)).length else (dstF (ns.take i)).length + 1) = _
        rw [dst_any hd9 hy9, htk, dstF_snoc]
        unfold stepd
        split <;> simp
    refine wpAny_pure ⟨plainId_quiet PyProof.Rows.F.plain_set_update_loop _, ih (i + 1) _ (by omega) hlt (W.frame _ _ _ hst1 fun b hb o e => ?_) hSi fun h3 tk3 hk3 hS3 => hR h3 tk3 (fun b o hb e => ?_) hS3⟩
    · rw [hsb.2 b (fun q : b = S => hSf (q ▸ hb))]; exact e
    · exact hk3 b o hb ((hsb.2 b (fun q : b = S => hb (q ▸ List.mem_cons_self))).trans (hk1 b o (fun q => hb (List.mem_cons_of_mem _ q)) e))
end
section
variable {prog : Program} {w : World} {A : Around} {E : Value → Shared → Prop} {s : Shared}
abbrev freshSet (led : Bool) : Obj := { cls := .type "set", dict := none, data := .set #[] 0 (.fresh 0 0 led) }
/-- set(list of things): only how many unlike things there are is kept. -/
theorem set_init {l : Addr} {vs : List Value} {ns : List Nat} {S : Addr} {led : Bool} {Q : Fin → Shared → Prop} (hh : A.handled = none) (hl : s.heap.IsList l vs.toArray) (hv : ThAre vs ns) (hz : vs.length ≤ 100) (hS : s.heap.get? S = some (freshSet led))
    (h : ∀ h' tk, h'.SetOf (PySem.strKind prog w) S (dSet ns ns.length) (dstF ns).length → (∀ b o, b ≠ S → s.heap.get? b = some o → h'.get? b = some o) → Q (.done (.ret .none)) { s with heap := h', toks := tk }) :
    wpAny (model prog w) A (Builtin.«set.__init__» ⟨[.ref S, .ref l], []⟩) Q E s := by
  obtain ⟨⟨ocls, odict, odata, oslots⟩, hol, hcl, nl, hdl⟩ := id hl
  simp only at hcl hdl
  subst hcl; subst hdl
  have hT : s.TypeIs (.ref S) "set" := ⟨_, hS, rfl⟩
  have hsls := PySem.F.sub_list_set
  have hslf := PySem.F.sub_list_frozenset
  have hne : (Value.type "list" == Value.type "dict") = false := by decide
  unfold Builtin.«set.__init__» PySem.noKeywords Builtin.Frozenset.updateFrom
  generalize hPI : pyIter = PI
  wp_walk
  subst hPI
  refine wpAny_pyIter_list (s := { s with heap := s.heap }) hl ?_
  refine wpAny_bind (wpAny_runValue ?_)
  have hlt : l < s.heap.objs.size := Heap.lt_size hol
  have hSt : S < s.heap.objs.size := Heap.lt_size hS
  have hlS : l ≠ S := fun q => by
    rw [q, hS] at hol
    have := congrArg Obj.cls (Option.some.inj hol)
    simp at this
  have hh3 : A.in1.handled = none := by simp [hh]
  have hsz : vs.toArray.size = vs.length := List.size_toArray
  have hvl := hv.length
  have h9 : ∀ k ∈ ns, k < 9 := fun k hk => by
    obtain ⟨j, hj⟩ := List.mem_iff_getElem?.mp hk
    exact (hv.get j k hj).1
  have hval : ∀ (i : Nat) (v : Value), vs.toArray[i]? = some v → ∃ t, v = .str (th (ns.getD i 0)) t := fun i v hi => by
    have hi' : vs[i]? = some v := by simpa using hi
    have hlt' : i < ns.length := by have := (List.getElem?_eq_some_iff.mp hi').1; omega
    obtain ⟨_, t, e⟩ := hv.get i (ns.getD i 0) (by rw [List.getD_eq_getElem?_getD, List.getElem?_eq_getElem hlt']; rfl)
    exact ⟨t, Option.some.inj (hi'.symm.trans e)⟩
  refine set_loop (Walks.list hh3 s.heap.objs.size l (Nat.ne_of_lt hlt) vs.toArray) S (by simp only [List.mem_cons, List.not_mem_nil, or_false, not_or]; exact ⟨Nat.ne_of_lt hSt, hlS.symm⟩) ns (by omega) h9 hval (by unfold scanBound; omega) vs.toArray.size 0 _ (by omega) (Nat.zero_le _)
    ⟨⟨_, Heap.get?_push_size _ rfl, rfl, rfl⟩, hl.push _⟩ ?_ fun h' tk hk hS' => ?_
  · exact SetOf_congr ((setObjOf_fresh (knd := PySem.strKind prog w) led).setOf (Heap.get?_push_of_some _ hS) (by unfold scanBound; omega)) (fun _ => rfl) rfl
  · refine wpAny_pure (wpAny_pure (h h' tk ?_ fun b o hb e => hk b o ?_ (Heap.get?_push_of_some _ e)))
    · rw [hsz, hvl] at hS'
      rw [List.take_length] at hS'
      exact hS'
    · simp only [List.mem_cons, List.not_mem_nil, or_false, not_or]
      exact ⟨hb, Nat.ne_of_lt (Heap.lt_size e)⟩
theorem set_call {l : Addr} {vs : List Value} {ns : List Nat} {Q : Value → Shared → Prop} (hh : A.handled = none) (hl : s.heap.IsList l vs.toArray) (hv : ThAre vs ns) (hz : vs.length ≤ 100)
    (h : ∀ h' tk, h'.SetOf (PySem.strKind prog w) s.heap.objs.size (dSet ns ns.length) (dstF ns).length → (∀ b o, s.heap.get? b = some o → h'.get? b = some o) → Q (.ref s.heap.objs.size) { s with heap := h', toks := tk }) :
    wpAny (model prog w) A (call (.type "set") [.ref l]) Q E s := by
  obtain ⟨c, tl, hmro⟩ := PySem.F.called_set.mro
  have h1 := PySem.F.called_set.notType
  have h2 := PySem.F.called_set.canCreate
  have hmade := PySem.F.called_set.made
  have hsub := PySem.F.called_set.sub
  have hct := PySem.F.typeCall_set_1 (.ref l)
  refine wpAny_call (codeAny_of_tree ?_)
  show wpAny _ _ (callAny (.type "set") _) _ _ _
  refine wpAny_pure ⟨Code.quiet_builtin _ (by decide +kernel), codeAny_builtin PySem.F.entry_type_call ?_⟩
  rw [Around.under_plain (weight_type_call_type "set" [.ref l] []) rfl]
  repeat (any_goals (first | assumption | wp_step))
  refine codeAny_mono (code_set_new_1 (.ref l) (E := E) (Q₁ := fun v s' => ∃ led, v = .ref s.heap.objs.size ∧ s' = { s with heap := s.heap.push (freshSet led) }) fun led => ⟨led, rfl, rfl⟩) fun r s₁ hr => ?_
  cases r with
  | error e => exact hr
  | ok fl =>
  cases fl with
  | ret v =>
    obtain ⟨led, rfl, rfl⟩ := hr
    have hS : (s.heap.push (freshSet led)).get? s.heap.objs.size = some (freshSet led) := Heap.get?_push_size _ rfl
    have hT : Shared.TypeIs { s with heap := s.heap.push (freshSet led) } (.ref s.heap.objs.size) "set" := ⟨_, hS, rfl⟩
    have hli := PySem.F.called_set.init.lookup
    have hbi := PySem.F.called_set.init.bind (.ref s.heap.objs.size)
    repeat (any_goals (first | assumption | wp_step))
    refine codeAny_mono (codeAny_call_builtin (R := wants (fun r s₂ => r = .none ∧ ∃ h' tk, s₂ = { s with heap := h', toks := tk } ∧ h'.SetOf (PySem.strKind prog w) s.heap.objs.size (dSet ns ns.length) (dstF ns).length ∧
        (∀ b o, s.heap.get? b = some o → h'.get? b = some o)) E) PySem.F.called_set.init.plain PySem.F.entry_set_init (check_set_init_1 hT ?_)) fun r₂ s₂ hr₂ => ?_
    · refine set_init (led := led) (by simp [hh]) (hl.push _) hv hz hS fun h' tk hS' hk => ?_
      exact ⟨rfl, h', tk, rfl, hS', fun b o e => hk b o (Nat.ne_of_lt (Heap.lt_size e)) (Heap.get?_push_of_some _ e)⟩
    · cases r₂ with
      | error e => exact hr₂
      | ok fl₂ =>
        cases fl₂ with
        | ret r =>
          obtain ⟨rfl, h', tk, rfl, hS', hk'⟩ := hr₂
          repeat (any_goals (first | assumption | wp_step))
          exact h _ _ hS' hk'
        | _ => exact hr₂.elim
  | _ => exact hr.elim
variable {h₀ : Heap} {L : Addr} {m : Str → Option Value} {news : List (Addr × Obj)}
/-- set(things), in a frame: the new set lies on the ledger. -/
theorem set_L {l : Addr} {vs : List Value} {nn : Nat} {ns : List Nat} {Q : Value → Shared → Prop} (hh : A.handled = none) (F : Fr h₀ L s.heap m) (N : News h₀ L s.heap news) (hm : (l, listObj vs nn) ∈ news) (hv : ThAre vs ns) (hz : vs.length ≤ 100)
    (h : ∀ S o h' tk, Fr h₀ L h' m → News h₀ L h' ((S, o) :: news) → o.SetObjOf (PySem.strKind prog w) (dSet ns ns.length) (dstF ns).length → (∀ p ∈ news, p.1 < S) → Q (.ref S) { s with heap := h', toks := tk }) :
    wpAny (model prog w) A (call (.type "set") [.ref l]) Q E s := by
  refine set_call hh (News.isList N hm) hv hz fun h' tk hS hk => ?_
  obtain ⟨o, ho, hso⟩ := hS.objOf
  obtain ⟨oL, es, ep, hL, r⟩ := F.ns
  have hLlt : L < s.heap.objs.size := Heap.lt_size hL
  refine h _ o h' tk ⟨⟨oL, es, ep, hk _ _ hL, r⟩, fun b o' e => hk b o' (F.keep b o' e), F.above⟩ (fun p hp => ?_) hso fun p hp => Heap.lt_size (N p hp).1
  rcases List.mem_cons.mp hp with rfl | hp
  · exact ⟨ho, Nat.ne_of_gt hLlt, Heap.get?_none_of_le (Nat.le_trans F.above (Nat.le_of_lt hLlt))⟩
  · exact ⟨hk _ _ (N p hp).1, (N p hp).2⟩
theorem len_S {S : Addr} {o : Obj} {Sp : Str → Bool} {n : Nat} {Q : Value → Shared → Prop} (N : News h₀ L s.heap news) (hm : (S, o) ∈ news) (hs : o.SetObjOf (PySem.strKind prog w) Sp n) (hz : n ≤ 100) (h : ∀ t k, Q (.int (n : Nat) t) { s with toks := k }) :
    wpAny (model prog w) A (call (.builtin "len") [.ref S]) Q E s := by
  obtain ⟨hex, es, ep, t, hd, _, _, hn, hf⟩ := hs
  subst hn
  exact call_len_set (N _ hm).1 hex hd hf (by omega) (h _ _)
end
theorem anew_Pl2 : True := by
  w_top off
  exact True.intro
/-- Pairs with the greater one ahead. -/
def invs : List Nat → Nat
  | [] => 0
  | a :: l => l.countP (fun b => decide (b < a)) + invs l
theorem invs_mid (A : List Nat) (x : Nat) (B : List Nat) : invs (A ++ x :: B) = invs (A ++ B) + A.countP (fun a => decide (x < a)) + B.countP (fun b => decide (b < x)) := by
  induction A with
  | nil => simp [invs]; omega
  | cons a A ih =>
    show (A ++ x :: B).countP _ + invs (A ++ x :: B) = (A ++ B).countP _ + invs (A ++ B) + _ + _
    rw [ih, List.countP_append, List.countP_append, List.countP_cons, List.countP_cons]
    omega
theorem insU_perm (ns : List Nat) (x : Nat) : List.Perm (insU ns x) (x :: ns) := by
  unfold insU
  generalize ns.countP (fun k => decide (k ≤ x)) = c
  refine List.perm_middle.trans ?_
  rw [List.take_append_drop]
theorem gaF_snoc (ns : List Nat) (x : Nat) : gaF (ns ++ [x]) = gaStep (gaF ns) x := by simp [gaF]
theorem gaF_perm (ns : List Nat) : List.Perm (gaF ns).1 ns := by
  induction ns using snoc_ind with
  | h0 => exact .nil
  | h l x ih =>
    rw [gaF_snoc]
    exact (insU_perm _ x).trans ((List.Perm.cons x ih).trans (List.perm_append_singleton x l).symm)
theorem gaF_invs (ns : List Nat) : (gaF ns).2 = invs ns := by
  induction ns using snoc_ind with
  | h0 => rfl
  | h l x ih =>
    rw [gaF_snoc]
    show (gaF l).2 + ((gaF l).1.length - (gaF l).1.countP (fun k => decide (k ≤ x))) = _
    have e := invs_mid l x []
    rw [List.append_nil] at e
    rw [e, ih, (gaF_perm l).length_eq, (gaF_perm l).countP_eq]
    have h2 : l.length = l.countP (fun k => decide (k ≤ x)) + l.countP (fun a => decide (x < a)) := by
      have := List.length_eq_countP_add_countP (l := l) (fun k => decide (k ≤ x))
      rw [this]
      congr 1
      apply List.countP_congr
      intro a _
      simp
    simp only [List.countP_nil]
    omega
/-- Of the first k places: how many hold a thing of this sort that has a greater one behind it (up to the end). -/
def hasG (l : List Nat) (p : Nat → Bool) : Nat → Nat
  | 0 => 0
  | k + 1 => hasG l p k + if p (l.getD k 0) = true ∧ l.getD k 0 < maxN (l.drop k) then 1 else 0
/-- The same, with no greater one behind it. -/
def noG (l : List Nat) (p : Nat → Bool) : Nat → Nat
  | 0 => 0
  | k + 1 => noG l p k + if p (l.getD k 0) = true ∧ ¬ l.getD k 0 < maxN (l.drop k) then 1 else 0
theorem maxN_append (a b : List Nat) : maxN (a ++ b) = max (maxN a) (maxN b) := by
  have key : ∀ (b : List Nat) (acc : Nat), b.foldl max acc = max acc (b.foldl max 0) := by
    intro b
    induction b with
    | nil => intro acc; simp
    | cons c b ih => intro acc; rw [List.foldl_cons, List.foldl_cons, ih, ih (max 0 c), Nat.zero_max, Nat.max_assoc]
  unfold maxN
  rw [List.foldl_append, key]
theorem getD_snoc {l : List Nat} {x k : Nat} (hk : k < l.length) : (l ++ [x]).getD k 0 = l.getD k 0 := by
  rw [List.getD_eq_getElem?_getD, List.getD_eq_getElem?_getD, List.getElem?_append_left hk]
theorem maxN_one (x : Nat) : maxN [x] = x := by simp [maxN]
theorem hasG_snoc (l : List Nat) (p : Nat → Bool) (x : Nat) : ∀ k, k ≤ l.length → hasG (l ++ [x]) p k = hasG l p k + noG l (fun a => p a && decide (a < x)) k := by
  intro k
  induction k with
  | zero => intro _; rfl
  | succ k ih =>
    intro hk
    have e : (l ++ [x]).drop k = l.drop k ++ [x] := List.drop_append_of_le_length (by omega)
    simp only [hasG, noG]
    rw [ih (by omega), getD_snoc (by omega), e, maxN_append, maxN_one]
    by_cases hp : p (l.getD k 0) = true
    · simp only [hp, Bool.true_and, decide_eq_true_eq, true_and]
      by_cases h1 : l.getD k 0 < maxN (l.drop k)
      · rw [if_pos (by omega), if_pos h1, if_neg (by omega)]; omega
      · by_cases h2 : l.getD k 0 < x
        · rw [if_pos (by omega), if_neg h1, if_pos ⟨h2, h1⟩]; omega
        · rw [if_neg (by omega), if_neg h1, if_neg (by omega)]; omega
    · have hp' : p (l.getD k 0) = false := by simpa using hp
      simp only [hp', Bool.false_and, Bool.false_eq_true, false_and, if_false]
      try omega
theorem noG_snoc (l : List Nat) (p : Nat → Bool) (x : Nat) : ∀ k, k ≤ l.length → noG (l ++ [x]) p k = noG l (fun a => p a && decide (x ≤ a)) k := by
  intro k
  induction k with
  | zero => intro _; rfl
  | succ k ih =>
    intro hk
    have e : (l ++ [x]).drop k = l.drop k ++ [x] := List.drop_append_of_le_length (by omega)
    simp only [noG]
    rw [ih (by omega), getD_snoc (by omega), e, maxN_append, maxN_one]
    by_cases hp : p (l.getD k 0) = true
    · simp only [hp, Bool.true_and, decide_eq_true_eq, true_and]
      by_cases h1 : l.getD k 0 < maxN (l.drop k)
      · rw [if_neg (by omega), if_neg (by omega)]
      · by_cases h2 : l.getD k 0 < x
        · rw [if_neg (by omega), if_neg (by omega)]
        · rw [if_pos (by omega), if_pos ⟨by omega, h1⟩]
    · have hp' : p (l.getD k 0) = false := by simpa using hp
      simp only [hp', Bool.false_and, Bool.false_eq_true, false_and, if_false]
      try omega
theorem getD_last (l : List Nat) (x : Nat) : (l ++ [x]).getD l.length 0 = x := by
  rw [List.getD_eq_getElem?_getD, List.getElem?_append_right (Nat.le_refl _)]; simp
theorem drop_last (l : List Nat) (x : Nat) : (l ++ [x]).drop l.length = [x] := by
  rw [List.drop_append_of_le_length (Nat.le_refl _)]; simp
/-- What the stack holds has no greater thing behind it; what went out has. -/
theorem west_count (ns : List Nat) : ∀ p : Nat → Bool, (westF ns).1.countP p = noG ns p ns.length ∧ (westF ns).2.countP p = hasG ns p ns.length := by
  induction ns using snoc_ind with
  | h0 => intro p; exact ⟨rfl, rfl⟩
  | h l x ih =>
    intro p
    rw [westF_snoc]
    have hs := westF_sorted l
    obtain ⟨h1, h2⟩ := count_split _ _ (falls_ge (x := x) hs)
    unfold westStep
    dsimp only
    generalize hc : (westF l).1.countP (fun k => decide (x ≤ k)) = c at h1 h2 ⊢
    have hl : (l ++ [x]).length = l.length + 1 := by simp
    have split2 : ∀ q : Nat → Bool, ((westF l).1.take c).countP q + ((westF l).1.drop c).countP q = (westF l).1.countP q := fun q => by
      rw [← List.countP_append, List.take_append_drop]
    have t1 : ((westF l).1.take c).countP p = ((westF l).1.take c).countP (fun a => p a && decide (x ≤ a)) := by
      apply List.countP_congr
      intro a ha
      have := h1 a ha
      simp [of_decide_eq_true this]
    have t2 : ((westF l).1.drop c).countP (fun a => p a && decide (x ≤ a)) = 0 := by
      rw [List.countP_eq_zero]
      intro a ha
      rw [h2 a ha, Bool.and_false]; exact Bool.false_ne_true
    have t3 : ((westF l).1.drop c).countP p = ((westF l).1.drop c).countP (fun a => p a && decide (a < x)) := by
      apply List.countP_congr
      intro a ha
      have := of_decide_eq_false (h2 a ha)
      simp; omega
    have t4 : ((westF l).1.take c).countP (fun a => p a && decide (a < x)) = 0 := by
      rw [List.countP_eq_zero]
      intro a ha
      have := of_decide_eq_true (h1 a ha)
      simp; omega
    rw [hl]
    constructor
    · show List.countP p (_ ++ [x]) = noG (l ++ [x]) p l.length + _
      rw [List.countP_append, noG_snoc l p x _ (Nat.le_refl _), getD_last, drop_last, maxN_one, ← (ih _).1]
      have := split2 (fun a => p a && decide (x ≤ a))
      simp only [List.countP_cons, List.countP_nil, Nat.lt_irrefl, not_false_eq_true, and_true]
      omega
    · show List.countP p (_ ++ _) = hasG (l ++ [x]) p l.length + _
      rw [List.countP_append, hasG_snoc l p x _ (Nat.le_refl _), getD_last, drop_last, maxN_one, ← (ih _).1, ← (ih _).2, List.countP_reverse]
      have := split2 (fun a => p a && decide (a < x))
      simp only [Nat.lt_irrefl, and_false, if_false]
      omega
theorem hasG_prefix (ns : List Nat) (p : Nat → Bool) (late : Nat) (y : Nat) (hp : p = fun a => decide (y < a)) : ∀ k, k ≤ late → late ≤ ns.length → ns.getD late 0 = y → obIn ns late k = hasG (ns.take late) p k := by
  intro k
  subst hp
  induction k with
  | zero => intro _ _ _; rfl
  | succ k ih =>
    intro hk hl hy
    have e1 : (ns.take late).getD k 0 = ns.getD k 0 := by
      rw [List.getD_eq_getElem?_getD, List.getD_eq_getElem?_getD, List.getElem?_take, if_pos (by omega)]
    have e2 : (ns.drop k).take (late - k) = (ns.take late).drop k := by rw [List.drop_take]
    simp only [obIn, hasG, obT]
    rw [ih (by omega) hl hy, e1, e2, hy]
    simp only [decide_eq_true_eq]
/-- Among what is let out there are as many pairs with the greater one ahead as there were with one between. -/
theorem west_pairs (ns : List Nat) : (gaF (west ns)).2 = obOut ns ns.length := by
  rw [gaF_invs]
  have key : ∀ n, n ≤ ns.length → invs (west (ns.take n)) = obOut ns n := by
    intro n
    induction n with
    | zero => intro _; rfl
    | succ n ih =>
      intro hn
      have ih := ih (by omega)
      obtain ⟨y, hy⟩ : ∃ y, ns[n]? = some y := ⟨_, List.getElem?_eq_getElem (by omega)⟩
      have hyD : ns.getD n 0 = y := by rw [List.getD_eq_getElem?_getD, hy]; rfl
      have et : ns.take (n + 1) = ns.take n ++ [y] := by rw [List.take_add_one, hy]; rfl
      have hlen : (ns.take n).length = n := by rw [List.length_take]; omega
      rw [et]
      show _ = obOut ns n + obIn ns n n
      rw [hasG_prefix ns _ n y rfl n (Nat.le_refl _) (by omega) hyD, ← ih]
      have hc := (west_count (ns.take n) fun a => decide (y < a)).2
      rw [hlen] at hc
      rw [← hc]
      unfold west
      rw [westF_snoc]
      have hs := westF_sorted (ns.take n)
      obtain ⟨h1, h2⟩ := count_split _ _ (falls_ge (x := y) hs)
      unfold westStep
      dsimp only
      generalize (westF (ns.take n)).1.countP (fun k => decide (y ≤ k)) = c at h1 h2 ⊢
      generalize (westF (ns.take n)).2 = O
      generalize (westF (ns.take n)).1 = S at h1 h2 ⊢
      have e3 : O ++ (S.drop c).reverse ++ (S.take c ++ [y]).reverse = (O ++ (S.drop c).reverse) ++ y :: (S.take c).reverse := by simp
      have e4 : O ++ S.reverse = (O ++ (S.drop c).reverse) ++ (S.take c).reverse := by
        conv => lhs; rw [← List.take_append_drop c S, List.reverse_append]
        simp
      rw [e3, e4, invs_mid, List.countP_append, List.countP_reverse, List.countP_reverse]
      have z1 : (S.drop c).countP (fun a => decide (y < a)) = 0 := by
        rw [List.countP_eq_zero]; intro a ha
        have := of_decide_eq_false (h2 a ha); simp; omega
      have z2 : (S.take c).countP (fun b => decide (b < y)) = 0 := by
        rw [List.countP_eq_zero]; intro a ha
        have := of_decide_eq_true (h1 a ha); simp; omega
      omega
  have := key ns.length (Nat.le_refl _)
  rw [List.take_length] at this
  exact this
/-- The pass, n times over. -/
def wit : Nat → List Nat → List Nat
  | 0, ns => ns
  | n + 1, ns => west (wit n ns)
theorem wit_west (n : Nat) (ns : List Nat) : wit n (west ns) = wit (n + 1) ns := by
  induction n with
  | zero => rfl
  | succ n ih => show west (wit n (west ns)) = west (wit (n + 1) ns); rw [ih]
theorem wit_perm (n : Nat) (ns : List Nat) : List.Perm (wit n ns) ns := by
  induction n with
  | zero => exact .refl _
  | succ n ih => exact (west_perm _).trans ih
theorem west_top (M : Nat) (A : List Nat) (hA : ∀ a ∈ A, a < M) : ∀ c, west (A ++ List.replicate c M) = west A ++ List.replicate c M := by
  have key : ∀ c, westF (A ++ List.replicate (c + 1) M) = (List.replicate (c + 1) M, west A) := by
    intro c
    induction c with
    | zero =>
      show westF (A ++ [M]) = _
      rw [westF_snoc]
      unfold westStep
      have h0 : (westF A).1.countP (fun k => decide (M ≤ k)) = 0 := by
        rw [List.countP_eq_zero]; intro a ha
        have := hA a (westF_mem1 ha); simp; omega
      rw [h0]
      simp [west]
    | succ c ih =>
      rw [List.replicate_succ', ← List.append_assoc, westF_snoc, ih]
      unfold westStep
      dsimp only
      rw [countP_rep (by simp), List.take_of_length_le (by simp), List.drop_of_length_le (by simp)]
      simp [List.replicate_succ']
  intro c
  cases c with
  | zero => simp
  | succ c =>
    conv => lhs; unfold west
    rw [key]
    simp
theorem wit_top (M : Nat) (n : Nat) : ∀ (A : List Nat), (∀ a ∈ A, a < M) → ∀ c, wit n (A ++ List.replicate c M) = wit n A ++ List.replicate c M := by
  induction n with
  | zero => intro A _ c; rfl
  | succ n ih =>
    intro A hA c
    show west (wit n (A ++ List.replicate c M)) = west (wit n A) ++ _
    rw [ih A hA c, west_top M _ fun a ha => hA a ((wit_perm n A).subset ha)]
theorem dstF_nodup (ns : List Nat) : (dstF ns).Nodup := by
  induction ns using snoc_ind with
  | h0 => exact .nil
  | h l x ih =>
    rw [dstF_snoc]
    unfold stepd
    split
    · exact ih
    · rename_i h
      have h' : x ∉ dstF l := by simpa using h
      rw [List.nodup_append]
      exact ⟨ih, by simp, fun a ha b hb => by rw [List.mem_singleton.mp hb]; rintro rfl; exact h' ha⟩
theorem wit_sorted (n : Nat) : ∀ ns : List Nat, (dstF ns).length ≤ n + 1 → (wit n ns).Pairwise (· ≤ ·) := by
  induction n with
  | zero =>
    intro ns h
    show ns.Pairwise _
    have all : ∀ a ∈ ns, ∀ b ∈ ns, a = b := by
      intro a ha b hb
      have ha' := mem_dstF.mpr ha
      have hb' := mem_dstF.mpr hb
      generalize dstF ns = d at h ha' hb'
      match d, h with
      | [], _ => cases ha'
      | [k], _ => rw [List.mem_singleton.mp ha', List.mem_singleton.mp hb']
    exact List.pairwise_iff_forall_sublist.mpr fun {a b} hab => by
      have := hab.subset
      have e := all a (this (.head _)) b (this (.tail _ (.head _)))
      omega
  | succ n ih =>
    intro ns h
    by_cases hn : ns = []
    · subst hn
      have e : wit (n + 1) [] = [] := List.length_eq_zero_iff.mp ((wit_perm _ _).length_eq)
      rw [e]; exact .nil
    · have hM := maxN_in hn
      have hle : ∀ a ∈ ns, a ≤ maxN ns := fun a ha => (maxN_le ns 0).2 a ha
      generalize maxN ns = M at hM hle
      have hw := west_max M ns hle
      generalize (allParts M ns).flatMap west = W at hw
      have hc : (allParts M ns).length - 1 = ns.count M := by have := (partsF_flat M ns).2; omega
      rw [hc] at hw
      have hp := west_perm ns
      rw [hw] at hp
      have hcM : W.count M = 0 := by
        have := hp.count_eq M
        rw [List.count_append, List.count_replicate_self] at this; omega
      have hWM : ∀ a ∈ W, a < M := fun a ha => by
        have h1 := hle a (hp.subset (List.mem_append_left _ ha))
        rcases Nat.lt_or_eq_of_le h1 with h2 | h2
        · exact h2
        · subst h2; exact absurd ha (List.count_eq_zero.mp hcM)
      have hd : (dstF W).length + 1 ≤ (dstF ns).length := by
        have : (M :: dstF W).Nodup := List.nodup_cons.mpr ⟨fun hm => by have := hWM M (mem_dstF.mp hm); omega, dstF_nodup W⟩
        have := this.length_le_of_subset (l₂ := dstF ns) fun a ha => by
          rcases List.mem_cons.mp ha with rfl | ha
          · exact mem_dstF.mpr hM
          · exact mem_dstF.mpr (hp.subset (List.mem_append_left _ (mem_dstF.mp ha)))
        simpa using this
      rw [← wit_west, hw, wit_top M n W hWM]
      rw [List.pairwise_append]
      refine ⟨ih W (by omega), List.pairwise_replicate.mpr (.inr (Nat.le_refl _)), fun a ha b hb => ?_⟩
      have := hWM a ((wit_perm n W).subset ha)
      rw [(List.mem_replicate.mp hb).2]; omega
theorem insD_perm (ns : List Nat) (x : Nat) : List.Perm (insD ns x) (x :: ns) := by
  unfold insD
  generalize ns.countP (fun k => decide (x ≤ k)) = c
  refine List.perm_middle.trans ?_
  rw [List.take_append_drop]
theorem sortD_perm (ns : List Nat) : List.Perm (sortD ns) ns := by
  induction ns using snoc_ind with
  | h0 => exact .nil
  | h l x ih =>
    have e : sortD (l ++ [x]) = insD (sortD l) x := by simp [sortD]
    rw [e]
    exact (insD_perm _ x).trans ((List.Perm.cons x ih).trans (List.perm_append_singleton x l).symm)
theorem sortD_sorted (ns : List Nat) : (sortD ns).Pairwise (· ≥ ·) := foldl_insD_sorted ns [] .nil
/-- Behind as many passes as there are unlike things less one the row stands in order. -/
theorem wit_goal (n : Nat) (ns : List Nat) (h : (dstF ns).length ≤ n + 1) : wit n ns = (sortD ns).reverse := by
  refine List.Perm.eq_of_pairwise (le := fun a b => a ≤ b) (fun a b _ _ h1 h2 => Nat.le_antisymm h1 h2) (wit_sorted n ns h) (List.pairwise_reverse.mpr (sortD_sorted ns)) ((wit_perm n ns).trans ((List.reverse_perm _).trans (sortD_perm ns)).symm)
theorem anew_FRR : True := by
  w_top off
  exact True.intro
section
variable {prog : Program} {w : World} {A : Around} {s : Shared} {env : Env} {h₀ : Heap} {x : Str} {body : List Stmt} {Q : Flow → Shared → Prop}
/-- A loop over a range, in the own logic. -/
theorem loopR_range {px : Pos} {r : Addr} {a b c : Int} {t u v : Tok} {n : Nat} {m₀ : Str → Option Value} {news : List (Addr × Obj)} (J : Nat → (Str → Option Value) → List (Addr × Obj) → Prop)
    (hh : A.handled = none) (hr : IsRange s.heap r a b c t u v) (hsmall : Builtin.Range.small a b c = true) (hn : Builtin.Range.rangeSize a b c = (n : Int)) (F : Fr h₀ env.locals s.heap m₀) (N : News h₀ env.locals s.heap news) (hj : J 0 m₀ news)
    (turn : ∀ i tt m₁ news₁ h tk I oI, i < n → J i m₁ news₁ → (∀ p ∈ news₁, p.1 ≠ I) → Fr h₀ env.locals h (fun y => if y = x then some (.int (a + (i : Nat) * c) tt) else m₁ y) → News h₀ env.locals h ((I, oI) :: news₁) →
      wpR (model prog w) A (execs body env) (TurnEnd h₀ env.locals (J (i + 1)) I oI { s with heap := h, toks := tk } Q) { s with heap := h, toks := tk })
    (done : ∀ m₁ news₁ h tk, J n m₁ news₁ → Fr h₀ env.locals h m₁ → News h₀ env.locals h news₁ → Q .next { s with heap := h, toks := tk })
    (hx : env.kindOf x = some .local := by rfl) (hk : env.scope.kind = .function := by rfl) :
    wpAny (model prog w) A (pyIter (.ref r)) (fun it s₂ => codeR (model prog w) A (.forLoop (.Name x px) it body [] env) Q s₂) (fun _ _ => False) s := by
  refine wpAny_pyIter_range hr hsmall ?_
  have W := Walks.range (prog := prog) (w := w) hh s.heap.objs.size a c n
  have hI0 : h₀.get? s.heap.objs.size = none := next_is_new F
  have hLlt : env.locals < s.heap.objs.size := F.ns.lt
  have off0 : ∀ p ∈ news, p.1 ≠ s.heap.objs.size := fun p hp => Nat.ne_of_lt (Heap.lt_size (N p hp).1)
  have hst0 : IsRangeIter (s.heap.push { cls := .type "range_iterator", data := .fields #[rawInt a, rawInt (Builtin.Range.rangeSize a b c), rawInt c] }) s.heap.objs.size (a + (0 : Nat) * c) ((n : Int) - (0 : Nat)) c := by
    show IsRangeIter _ _ _ _ _; rw [hn]; simpa using Heap.get?_push_size _ rfl
  have F0 := F.push { cls := .type "range_iterator", data := .fields #[rawInt a, rawInt (Builtin.Range.rangeSize a b c), rawInt c] }
  have N0 := N.push F { cls := .type "range_iterator", data := .fields #[rawInt a, rawInt (Builtin.Range.rangeSize a b c), rawInt c] }
  generalize hI : s.heap.objs.size = I at N0 off0 W hst0 hI0 hLlt
  have hLI : env.locals ≠ I := Nat.ne_of_lt hLlt
  refine codeR_forLoop (fun k s' => ∃ i h' tk m' news' oI, k = n + 1 - i ∧ i ≤ n ∧ s' = { s with heap := h', toks := tk } ∧ Fr h₀ env.locals h' m' ∧ News h₀ env.locals h' ((I, oI) :: news') ∧ (∀ p ∈ news', p.1 ≠ I) ∧ IsRangeIter h' I (a + (i : Nat) * c) ((n : Int) - (i : Nat)) c ∧ J i m' news') ?_ (n + 1)
    ⟨0, _, s.toks, m₀, news, _, rfl, Nat.zero_le _, rfl, F0, N0, off0, hst0, hj⟩
  rintro k s' ⟨i, h', tk, m', news', oI, rfl, hi, rfl, F', N', off', hit, hJ⟩
  have next : ∀ h1 : Heap, (∀ b o, b ∉ [I] → h'.get? b = some o → h1.get? b = some o) → Fr h₀ env.locals h1 m' ∧ News h₀ env.locals h1 news' := fun h1 hk1 =>
    ⟨⟨F'.ns.at' fun o e => hk1 _ o (fun q => hLI (List.mem_singleton.mp q)) e, fun b o e => hk1 b o (fun q => by rw [List.mem_singleton.mp q, hI0] at e; cases e) (F'.keep b o e), F'.above⟩,
      fun p hp => ⟨hk1 _ _ (fun q => off' p hp (List.mem_singleton.mp q)) (N' p (.tail _ hp)).1, (N' p (.tail _ hp)).2⟩⟩
  by_cases hlt : i < n
  · refine W.item i _ _ _ hlt hit fun v h1 tk1 hP hst1 hk1 => ?_
    obtain ⟨tt, rfl⟩ := hP
    obtain ⟨F1, N1⟩ := next h1 hk1
    obtain ⟨oI1, hoI1⟩ : ∃ o, h1.get? I = some o := ⟨_, hst1⟩
    have N1' : News h₀ env.locals h1 ((I, oI1) :: news') := fun p hp => by
      rcases List.mem_cons.mp hp with rfl | hp
      · exact ⟨hoI1, (N' _ (.head _)).2⟩
      · exact N1 p hp
    refine wpAny_assign_Name (wpAny_storeName_local hx F1.ns (fun h2 hn2 hs2 => ?_) (by rw [hk]; rfl))
    have F2 := F1.set hn2 hs2
    have N2 := N1'.set hs2
    refine wpR_mono (turn i tt m' news' h2 _ I oI1 hlt hJ off' F2 N2) fun f s₂ p => ?_
    have fin : (∃ h' tk m'' news'', s₂ = { s with heap := h', toks := tk } ∧ Fr h₀ env.locals h' m'' ∧ News h₀ env.locals h' ((I, oI1) :: news'') ∧ (∀ p ∈ news'', p.1 ≠ I) ∧ J (i + 1) m'' news'') →
        ∃ mm, mm < n + 1 - i ∧ ∃ i' h' tk m' news' oI, mm = n + 1 - i' ∧ i' ≤ n ∧ s₂ = { s with heap := h', toks := tk } ∧ Fr h₀ env.locals h' m' ∧ News h₀ env.locals h' ((I, oI) :: news') ∧ (∀ p ∈ news', p.1 ≠ I) ∧ IsRangeIter h' I (a + (i' : Nat) * c) ((n : Int) - (i' : Nat)) c ∧ J i' m' news' := by
      rintro ⟨h3, tk3, m3, news3, e3, F3, N3, o3, j3⟩
      refine ⟨n + 1 - (i + 1), by omega, i + 1, h3, tk3, m3, news3, oI1, rfl, hlt, e3, F3, N3, o3, ?_, j3⟩
      have e4 : h3.get? I = h1.get? I := (N3 _ (.head _)).1.trans hoI1.symm
      exact e4.trans hst1
    cases f with
    | ret v => exact p
    | brk => exact p
    | next => exact fin p
    | cont => exact fin p
  · obtain rfl : i = n := by omega
    refine W.done _ _ _ hit fun h1 tk1 hk1 => ?_
    obtain ⟨F1, N1⟩ := next h1 hk1
    exact done m' news' h1 tk1 hJ F1 N1
end
theorem anew_Lw : True := by
  w_top off
  exact True.intro
section
variable {prog : Program} {w : World} {A : Around} {s : Shared} {K : Frag} {p : Program} {loose : List Str} {mean : PySem.ExcName → Option Value} {mg mb : Str → Option Value}
/-- The entry of a def from the claim's caller, in the own logic. -/
theorem code_topR {R : Value → Shared → Prop} {name qual : Str} {params : Arguments} {body : List Stmt} {scope : Scope} {dV kV doc pm cdv ct oc : Value} {an od : Option Addr} {osl : Array (Option Value)} {f : Addr} {args : Args} {binds : List (Str × Value)}
    (X : K.In s.heap) (T : Top p loose mean mg mb s.heap)
    (ho : K.lookup f = some ⟨oc, od, .func (fnOf name qual params body scope dV kV doc pm an cdv ct), osl⟩) (hcd : codeIn K cdv qual = true) (hroom : A.depth < recursionLimit)
    (hbind : BindsTo s (fnOf name qual params body scope dV kV doc pm an cdv ct) args binds) (hloc : ∀ y ∈ binds, scope.names.lookup y.1 = some .local)
    (h : ∀ L' h₁, Fr s.heap L' h₁ (fun y => binds.reverse.lookup y) → wpR (model prog w) (A.deeper (envOf qual scope L' f cdv)) (execs body (envOf qual scope L' f cdv))
        (fun fl s' => R (match fl with | .ret v => v | _ => .none) s') { s with heap := h₁, toks := s.toks + binds.length })
    (hco : scope.isCoroutine = false) (hgen : scope.isGenerator = false) (hk : scope.kind = .function)
    (hcell : ∀ x ∈ scope.names, x.2 ≠ .cell) : codeR (model prog w) A (.call (.ref f) args) (fun fl s' => ∃ v, fl = .ret v ∧ R v s') s := by
  refine codeR_call_function hroom (X _ _ ho) rfl hco hgen rfl (codeRec_of X hcd) (hbind _ _ _ _ ?_)
  refine wpAny_newFunctionEnv hcell hloc (fun h₁ hns₁ hsb₁ => ⟨T.nolimit.fresh _ hsb₁, codeR_func ?_⟩) hk
  have hk₁ : ∀ b o, s.heap.get? b = some o → h₁.get? b = some o := fun b o e => hsb₁.extBut b o (Nat.ne_of_lt (Heap.lt_size e)) (Heap.get?_push_of_some _ e)
  exact wpR_mono (h s.heap.objs.size h₁ ⟨hns₁, hk₁, Nat.le_refl _⟩) fun fl s' hl => ⟨_, rfl, hl⟩
end
theorem DoesI.use {w : World} {p : Program} {loose : List Str} {mean : PySem.ExcName → Option Value} {mg mb : Str → Option Value} {ax : Addr} {its : List Value} {f : Addr} {D U : Nat} {args : List Value} {kw : List (Str × Value)} {news : List (Addr × Obj)} {Post : Value → List (Addr × Obj) → Prop}
    {dp un : Nat} {gd : Option (List Code)} {cn : Str} {cs : Scope} {a : Addr} {ccd : Value} {cl : List (Str × Addr)} {outer : List Env} {A₀ : Around} {base h₀ : Heap} {L : Addr} {m : Str → Option Value} {s : Shared} {Q E : Value → Shared → Prop}
    (C : DoesI w p loose mean mg mb ax its f D U args kw news Post) (hl : h₀.IsList ax its.toArray) (B : Below A₀ base outer h₀) (F : Fr h₀ L s.heap m) (X : (hd.heap_1 w.params).In h₀) (T : Top p loose mean mg mb h₀) (hk : cs.kind = .function) (hd : dp + D < recursionLimit) (hu : un + U < cLine) (N : News h₀ L s.heap news)
    (ret : ∀ r news' h' tk', Fr h₀ L h' m → News h₀ L h' news' → Post r news' → Q r { s with heap := h', toks := tk' }) :
    wpAny (model PySem.Challenge.rw_xp0010_01.row.prog w) (ktrTop dp un gd cn cs L a ccd cl outer) (call (.ref f) args kw) Q E s := C _ _ _ _ _ _ _ _ _ _ _ _ _ _ _ _ _ hl B F X T hk hd hu N ret
theorem callDef1F {M : Model} {A : Around} {s : Shared} {pos : Pos} {a : Addr} {x : Sem Value} {Q : Value → Shared → Prop}
    (h : wpR M A x (fun v s₁ => IsFn s₁ a ∧ wpR M A (call (.ref a) [v] []) Q s₁) s) : wpR M A (callWith pos (.ref a) [] [(false, x)] []) Q s := callDef1 h
theorem fn_160 (w : World) : ∃ o fd, (Mine.hd.heap_1 w.params).lookup 160 = some o ∧ o.data = .func fd := of_isFnB (by kernel_rfl)
/-- The turns of the law's loop. -/
def turnsOf (ns : List Nat) : Nat := if 1 < (dstF ns).length - 1 then (dstF ns).length - 1 else 1
def LwJ (W : Addr) (ws : List Value) (ns : List Nat) (i : Nat) (m : Str → Option Value) (news : List (Addr × Obj)) : Prop :=
  ∃ l vs nn ps rest, m "things" = some (.ref l) ∧ m "goal" = some (.ref W) ∧ news = (l, listObj vs nn) :: (155, tabObj ps) :: (W, listObj ws 0) :: rest ∧ ThAre vs (wit i ns) ∧ TabOk lamPos lamQual ps rest ∧
    (i = 0 ∨ wit i ns ≠ (sortD ns).reverse) ∧ (l ≠ 155 ∧ W ≠ 155 ∧ W ≠ l) ∧ ∀ p ∈ rest, p.1 ≠ 155 ∧ p.1 ≠ l ∧ p.1 ≠ W
theorem amp_len (ns : List Nat) : (Txt.join (Str.ofString "&") (ns.map th)).length ≤ 3 * ns.length := by
  cases ns with
  | nil => exact Nat.zero_le _
  | cons n ns =>
    have key : ∀ l : List Nat, (l.flatMap fun k => (Str.ofString "&").cps.toList ++ (th k).cps.toList).length = 3 * l.length := by
      intro l
      induction l with
      | nil => rfl
      | cons k l ih =>
        rw [List.flatMap_cons, List.length_append, ih, List.length_append, List.length_cons]
        have e1 : (Str.ofString "&").cps.toList.length = 1 := rfl
        have e2 : (th k).cps.toList.length = 2 := rfl
        omega
    have e : (Txt.join (Str.ofString "&") ((n :: ns).map th)).cps.toList.length = 2 + 3 * ns.length := by
      rw [show (Txt.join (Str.ofString "&") ((n :: ns).map th)).cps.toList = _ from glued_list _ _ _, List.flatMap_map, List.length_append, key]
      rfl
    show Array.size _ ≤ _
    rw [← Array.length_toList, e, List.length_cons]; omega
theorem law_code (w : World) (p : Program) (loose : List Str) (mean : PySem.ExcName → Option Value) (mg mb : Str → Option Value) (s : Shared) (ax : Addr) (its : List Value) (Q : Value → Shared → Prop)
    (X : (hd.heap_1 w.params).In s.heap) (T : Top p loose mean mg mb s.heap) (hT : TabsAt [(159, 155)] s.heap) (hl : s.heap.IsList ax its.toArray) (hits : IntsL its) (hlen : its.length ≤ 1000)
    (hQ : ∀ h' tk, (∀ b o, (ghostOf s.heap [(159, 155)]).get? b = some o → h'.get? b = some o) → GrownAll [(159, 155)] h' → Q (.bool true) { s with heap := h', toks := tk }) :
    codeR (model PySem.Challenge.rw_xp0010_01.row.prog w) callerA (.call (.ref 200) ⟨[.ref ax], []⟩) (fun fl s' => ∃ v, fl = .ret v ∧ Q v s') s := by
  revert X
  k_fill
  intro X
  (k_dflt (refine' code_topR ?k3 ?k5 ?k6 ?k7 ?k8 ?k9 ?kB ?_ ?c2 ?c3 ?c4 ?c5; (case k3 => k_asm); (case k5 => k_asm); (case k6 => k_is); (case k7 => k_is); (case k8 => decide); (case k9 => first | exact BindsTo.of_eq rfl); (case c5 => decide); (case kB => exact locs rfl); (case c2 => exact rfl); (case c3 => exact rfl); (case c4 => exact rfl); intro _ _ _; (try dsimp only); (try k_fold)))
  rename_i L h1 F0
  have N0 : News s.heap L h1 [] := fun p hp => nomatch hp
  have X1 := ghost_K hT X (by kernel_rfl)
  have T1 := ghost_top hT T
  have B1 := ghost_below hT
  have N1 := ghost_news hT F0 N0
  have F1 := ghost_fr hT F0
  have hl1 := ghost_list hT hl
  simp only [tabNews, List.map_cons, List.map_nil, List.nil_append] at N1
  clear F0 N0 X T
  generalize hG : ghostOf s.heap [(159, 155)] = G at *
  refine execsR_any ?_
  (repeat' (first | (k_unfold; (try dsimp only)) | ((fail_if_success (with_reducible show wpAny _ _ (call (Value.ref _) _ _) _ _ _)); (((fail_if_success (with_reducible show wpAny _ _ (exec (Stmt.While _ _ _ _) _) _ _ _)); (fail_if_success (with_reducible show wpAny _ _ (exec (Stmt.For _ _ _ _ _) _) _ _ _)); (fail_if_success (with_reducible show wpAny _ _ (pyIter _) _ _ _)))); walk1) | ((fail_if_success (with_reducible show wpAny _ _ (call (Value.ref _) _ _) _ _ _)); (((fail_if_success (with_reducible show wpAny _ _ (exec (Stmt.While _ _ _ _) _) _ _ _)); (fail_if_success (with_reducible show wpAny _ _ (exec (Stmt.For _ _ _ _ _) _) _ _ _)); (fail_if_success (with_reducible show wpAny _ _ (pyIter _) _ _ _)))); dsimp only; walk1) | fail "no step"))
  k_dflt (refine' DoesI.use (things_does _ _ _ _ _ _ ax its _ hits hlen) ?k0 ?k1 ?k2 ?k3 ?k4 ?kK ?kd ?ku ?kN ?zz)
  case k0 => exact hl1
  case k1 => k_asm
  case k2 => k_asm
  case k3 => k_asm
  case k4 => k_asm
  case kN => k_asm
  case kK => first | exact rfl | assumption
  case kd => decide
  case ku => decide
  case zz =>
    rintro r2 news2 h2 tk2 F2 N2 ⟨R, vs, ns, nR, rfl, rfl, hv, hn6, hoR⟩
    (repeat' (first | (k_unfold; (try dsimp only)) | ((fail_if_success (with_reducible show wpAny _ _ (call (Value.ref _) _ _) _ _ _)); (((fail_if_success (with_reducible show wpAny _ _ (exec (Stmt.While _ _ _ _) _) _ _ _)); (fail_if_success (with_reducible show wpAny _ _ (exec (Stmt.For _ _ _ _ _) _) _ _ _)); (fail_if_success (with_reducible show wpAny _ _ (pyIter _) _ _ _)))); walk1) | ((fail_if_success (with_reducible show wpAny _ _ (call (Value.ref _) _ _) _ _ _)); (((fail_if_success (with_reducible show wpAny _ _ (exec (Stmt.While _ _ _ _) _) _ _ _)); (fail_if_success (with_reducible show wpAny _ _ (exec (Stmt.For _ _ _ _ _) _) _ _ _)); (fail_if_success (with_reducible show wpAny _ _ (pyIter _) _ _ _)))); dsimp only; walk1) | fail "no step"))
    refine execsR_any ?_
    (repeat' (first | (k_unfold; (try dsimp only)) | ((fail_if_success (with_reducible show wpAny _ _ (call (Value.ref _) _ _) _ _ _)); (((fail_if_success (with_reducible show wpAny _ _ (exec (Stmt.While _ _ _ _) _) _ _ _)); (fail_if_success (with_reducible show wpAny _ _ (exec (Stmt.For _ _ _ _ _) _) _ _ _)); (fail_if_success (with_reducible show wpAny _ _ (pyIter _) _ _ _)))); walk1) | ((fail_if_success (with_reducible show wpAny _ _ (call (Value.ref _) _ _) _ _ _)); (((fail_if_success (with_reducible show wpAny _ _ (exec (Stmt.While _ _ _ _) _) _ _ _)); (fail_if_success (with_reducible show wpAny _ _ (exec (Stmt.For _ _ _ _ _) _) _ _ _)); (fail_if_success (with_reducible show wpAny _ _ (pyIter _) _ _ _)))); dsimp only; walk1) | fail "no step"))
    k_dflt (refine' Does.use (writings_does _ _ _ _ _ _ R vs ns nR _ hv (by omega)) ?k1 ?k2 ?k3 ?k4 ?kK ?kd ?ku ?kN ?zz)
    case k1 => k_asm
    case k2 => k_asm
    case k3 => k_asm
    case k4 => k_asm
    case kN => k_asm
    case kK => first | exact rfl | assumption
    case kd => decide
    case ku => decide
    case zz =>
      rintro r3 news3 h3 tk3 F3 N3 ⟨W, ws, rfl, rfl, hoW, hw⟩
      (repeat' (first | (k_unfold; (try dsimp only)) | ((fail_if_success (with_reducible show wpAny _ _ (call (Value.ref _) _ _) _ _ _)); (((fail_if_success (with_reducible show wpAny _ _ (exec (Stmt.While _ _ _ _) _) _ _ _)); (fail_if_success (with_reducible show wpAny _ _ (exec (Stmt.For _ _ _ _ _) _) _ _ _)); (fail_if_success (with_reducible show wpAny _ _ (pyIter _) _ _ _)))); walk1) | ((fail_if_success (with_reducible show wpAny _ _ (call (Value.ref _) _ _) _ _ _)); (((fail_if_success (with_reducible show wpAny _ _ (exec (Stmt.While _ _ _ _) _) _ _ _)); (fail_if_success (with_reducible show wpAny _ _ (exec (Stmt.For _ _ _ _ _) _) _ _ _)); (fail_if_success (with_reducible show wpAny _ _ (pyIter _) _ _ _)))); dsimp only; walk1) | fail "no step"))
      refine execsR_any ?_
      (repeat' (first | (k_unfold; (try dsimp only)) | ((fail_if_success (with_reducible show wpAny _ _ (call (Value.ref _) _ _) _ _ _)); (((fail_if_success (with_reducible show wpAny _ _ (exec (Stmt.While _ _ _ _) _) _ _ _)); (fail_if_success (with_reducible show wpAny _ _ (exec (Stmt.For _ _ _ _ _) _) _ _ _)); (fail_if_success (with_reducible show wpAny _ _ (pyIter _) _ _ _)))); walk1) | ((fail_if_success (with_reducible show wpAny _ _ (call (Value.ref _) _ _) _ _ _)); (((fail_if_success (with_reducible show wpAny _ _ (exec (Stmt.While _ _ _ _) _) _ _ _)); (fail_if_success (with_reducible show wpAny _ _ (exec (Stmt.For _ _ _ _ _) _) _ _ _)); (fail_if_success (with_reducible show wpAny _ _ (pyIter _) _ _ _)))); dsimp only; walk1) | fail "no step"))
      k_dflt (refine' set_L ?zh ?zf ?zn (.tail _ (.head _)) hv (by have := hv.length; omega) ?_; (case zh => exact rfl); (case zf => k_asm); (case zn => k_asm))
      intro S so h4 tk4 F4 N4 hso hS
      (repeat' (first | (k_unfold; (try dsimp only)) | ((fail_if_success (with_reducible show wpAny _ _ (call (Value.ref _) _ _) _ _ _)); (((fail_if_success (with_reducible show wpAny _ _ (exec (Stmt.While _ _ _ _) _) _ _ _)); (fail_if_success (with_reducible show wpAny _ _ (exec (Stmt.For _ _ _ _ _) _) _ _ _)); (fail_if_success (with_reducible show wpAny _ _ (pyIter _) _ _ _)))); walk1) | ((fail_if_success (with_reducible show wpAny _ _ (call (Value.ref _) _ _) _ _ _)); (((fail_if_success (with_reducible show wpAny _ _ (exec (Stmt.While _ _ _ _) _) _ _ _)); (fail_if_success (with_reducible show wpAny _ _ (exec (Stmt.For _ _ _ _ _) _) _ _ _)); (fail_if_success (with_reducible show wpAny _ _ (pyIter _) _ _ _)))); dsimp only; walk1) | fail "no step"))
      k_dflt (refine' len_S ?zn (.head _) hso (by have := dstF_le ns; omega) ?_; (case zn => k_asm))
      intro t5 k5
      (repeat' (first | (k_unfold; (try dsimp only)) | ((fail_if_success (with_reducible show wpAny _ _ (call (Value.ref _) _ _) _ _ _)); (((fail_if_success (with_reducible show wpAny _ _ (exec (Stmt.While _ _ _ _) _) _ _ _)); (fail_if_success (with_reducible show wpAny _ _ (exec (Stmt.For _ _ _ _ _) _) _ _ _)); (fail_if_success (with_reducible show wpAny _ _ (pyIter _) _ _ _)))); walk1) | ((fail_if_success (with_reducible show wpAny _ _ (call (Value.ref _) _ _) _ _ _)); (((fail_if_success (with_reducible show wpAny _ _ (exec (Stmt.While _ _ _ _) _) _ _ _)); (fail_if_success (with_reducible show wpAny _ _ (exec (Stmt.For _ _ _ _ _) _) _ _ _)); (fail_if_success (with_reducible show wpAny _ _ (pyIter _) _ _ _)))); dsimp only; walk1) | fail "no step"))
      refine execsR (ForR ?_)
      (repeat' (first | (k_unfold; (try dsimp only)) | ((fail_if_success (with_reducible show wpAny _ _ (call (Value.ref _) _ _) _ _ _)); (((fail_if_success (with_reducible show wpAny _ _ (exec (Stmt.While _ _ _ _) _) _ _ _)); (fail_if_success (with_reducible show wpAny _ _ (exec (Stmt.For _ _ _ _ _) _) _ _ _)); (fail_if_success (with_reducible show wpAny _ _ (pyIter _) _ _ _)))); walk1) | ((fail_if_success (with_reducible show wpAny _ _ (call (Value.ref _) _ _) _ _ _)); (((fail_if_success (with_reducible show wpAny _ _ (exec (Stmt.While _ _ _ _) _) _ _ _)); (fail_if_success (with_reducible show wpAny _ _ (exec (Stmt.For _ _ _ _ _) _) _ _ _)); (fail_if_success (with_reducible show wpAny _ _ (pyIter _) _ _ _)))); dsimp only; walk1) | fail "no step"))
      rename_i h5 _ h6 tk6 _ N6 h7 tk7 tr1 tr2 tr3 hr F7 N7 _
      have hd6 := dstF_le ns
      have hturn : (if ((dstF ns).length : Int) - 1 > 1 then ((dstF ns).length : Int) - 1 else 1) = ((turnsOf ns : Nat) : Int) := by
        unfold turnsOf
        split <;> split <;> omega
      have ht7 : turnsOf ns ≤ 7 := by unfold turnsOf; split <;> omega
      rw [hturn] at hr
      have hR155 : R ≠ 155 := fun q => hoR (155, tabObj #[]) (.head _) q.symm
      have hW155 : W ≠ 155 := fun q => hoW (155, tabObj #[]) (.tail _ (.head _)) q.symm
      have hWR : W ≠ R := fun q => hoW (R, listObj vs nR) (.head _) q.symm
      have N8 : News G L h7 ((R, listObj vs nR) :: (155, tabObj #[]) :: (W, listObj ws 0) :: []) := News.sub N7 fun p hp => by
        simp only [List.mem_cons] at hp ⊢
        rcases hp with h | h | h | h <;> simp only [h, true_or, or_true]
      clear N6 N7
      refine loopR_range (n := turnsOf ns) (LwJ W ws ns) rfl hr (range_small _ (by omega)) (range_size _) F7 N8 ⟨R, vs, nR, #[], [], by walk_at "m_look", by walk_at "m_look", rfl, hv, .inl rfl, .inl rfl, ⟨hR155, hW155, hWR⟩, (by intro p hp; cases hp)⟩ ?_ ?_
      · rintro i tt m₁ news₁ h tk I oI hi ⟨l, vl, nn, ps, rest, hth, hgo, rfl, hvl, htab, hnot, ⟨f1, f2, f3⟩, f4⟩ hoI F₁ N₁
        have hwl := hvl.length
        have hpl : (wit i ns).length = 6 := by rw [(wit_perm i ns).length_eq]; exact hn6
        have i1 : l ≠ I := hoI _ (.head _)
        have i2 : 155 ≠ I := hoI _ (.tail _ (.head _))
        have i3 : W ≠ I := hoI _ (.tail _ (.tail _ (.head _)))
        have i4 : ∀ p ∈ rest, p.1 ≠ I := fun p hp => hoI p (.tail _ (.tail _ (.tail _ hp)))
        have N₂ : News G L h ((l, listObj vl nn) :: (155, tabObj ps) :: ((W, listObj ws 0) :: (I, oI) :: rest)) := News.sub N₁ fun p hp => by
          simp only [List.mem_cons] at hp ⊢
          rcases hp with h | h | h | h | h <;> simp only [h, true_or, or_true]
        clear N₁
        refine execsR (AssignR (CallR1 ?_))
        (repeat' (first | (k_unfold; (try dsimp only)) | ((fail_if_success (with_reducible show wpAny _ _ (call (Value.ref _) _ _) _ _ _)); (((fail_if_success (with_reducible show wpAny _ _ (exec (Stmt.While _ _ _ _) _) _ _ _)); (fail_if_success (with_reducible show wpAny _ _ (exec (Stmt.For _ _ _ _ _) _) _ _ _)); (fail_if_success (with_reducible show wpAny _ _ (pyIter _) _ _ _)))); walk1) | ((fail_if_success (with_reducible show wpAny _ _ (call (Value.ref _) _ _) _ _ _)); (((fail_if_success (with_reducible show wpAny _ _ (exec (Stmt.While _ _ _ _) _) _ _ _)); (fail_if_success (with_reducible show wpAny _ _ (exec (Stmt.For _ _ _ _ _) _) _ _ _)); (fail_if_success (with_reducible show wpAny _ _ (pyIter _) _ _ _)))); dsimp only; walk1) | fail "no step"))
        refine callDef1F (wpR_any ?_)
        (repeat' (first | (k_unfold; (try dsimp only)) | ((fail_if_success (with_reducible show wpAny _ _ (call (Value.ref _) _ _) _ _ _)); (((fail_if_success (with_reducible show wpAny _ _ (exec (Stmt.While _ _ _ _) _) _ _ _)); (fail_if_success (with_reducible show wpAny _ _ (exec (Stmt.For _ _ _ _ _) _) _ _ _)); (fail_if_success (with_reducible show wpAny _ _ (pyIter _) _ _ _)))); walk1) | ((fail_if_success (with_reducible show wpAny _ _ (call (Value.ref _) _ _) _ _ _)); (((fail_if_success (with_reducible show wpAny _ _ (exec (Stmt.While _ _ _ _) _) _ _ _)); (fail_if_success (with_reducible show wpAny _ _ (exec (Stmt.For _ _ _ _ _) _) _ _ _)); (fail_if_success (with_reducible show wpAny _ _ (pyIter _) _ _ _)))); dsimp only; walk1) | fail "no step"))
        · obtain ⟨_, _, q1, q2⟩ := fn_160 w
          exact isFn_of q1 q2 X1 (by assumption)
        k_dflt (refine' DoesR.use (pass_does _ _ _ _ _ _ l vl (wit i ns) nn ps ((W, listObj ws 0) :: (I, oI) :: rest) rest hvl (by omega) htab (fun p hp => .tail _ (.tail _ hp)) f1 (off_cons f2 (off_cons i2.symm fun p hp => (f4 p hp).1)) (off_cons f3 (off_cons i1.symm fun p hp => (f4 p hp).2.1))) ?k1 ?k2 ?k3 ?k4 ?kK ?kd ?ku ?kN ?zz)
        case k1 => k_asm
        case k2 => k_asm
        case k3 => k_asm
        case k4 => k_asm
        case kN => exact N₂
        case kK => first | exact rfl | assumption
        case kd => decide
        case ku => decide
        case zz =>
          rintro r9 news9 h9 tk9 F9 N9 ⟨O, vo, nO, ps', pre, rfl, rfl, hO, htab', hpre1, hoO, hpre2⟩
          dsimp only
          have hOl := hO.length
          have hp2 : (west (wit i ns)).length = 6 := by rw [west_length]; exact hpl
          (repeat' (first | (k_unfold; (try dsimp only)) | ((fail_if_success (with_reducible show wpAny _ _ (call (Value.ref _) _ _) _ _ _)); (((fail_if_success (with_reducible show wpAny _ _ (exec (Stmt.While _ _ _ _) _) _ _ _)); (fail_if_success (with_reducible show wpAny _ _ (exec (Stmt.For _ _ _ _ _) _) _ _ _)); (fail_if_success (with_reducible show wpAny _ _ (pyIter _) _ _ _)))); walk1) | ((fail_if_success (with_reducible show wpAny _ _ (call (Value.ref _) _ _) _ _ _)); (((fail_if_success (with_reducible show wpAny _ _ (exec (Stmt.While _ _ _ _) _) _ _ _)); (fail_if_success (with_reducible show wpAny _ _ (exec (Stmt.For _ _ _ _ _) _) _ _ _)); (fail_if_success (with_reducible show wpAny _ _ (pyIter _) _ _ _)))); dsimp only; walk1) | fail "no step"))
          refine execsR_any ?_
          (repeat' (first | (k_unfold; (try dsimp only)) | ((fail_if_success (with_reducible show wpAny _ _ (call (Value.ref _) _ _) _ _ _)); (((fail_if_success (with_reducible show wpAny _ _ (exec (Stmt.While _ _ _ _) _) _ _ _)); (fail_if_success (with_reducible show wpAny _ _ (exec (Stmt.For _ _ _ _ _) _) _ _ _)); (fail_if_success (with_reducible show wpAny _ _ (pyIter _) _ _ _)))); walk1) | ((fail_if_success (with_reducible show wpAny _ _ (call (Value.ref _) _ _) _ _ _)); (((fail_if_success (with_reducible show wpAny _ _ (exec (Stmt.While _ _ _ _) _) _ _ _)); (fail_if_success (with_reducible show wpAny _ _ (exec (Stmt.For _ _ _ _ _) _) _ _ _)); (fail_if_success (with_reducible show wpAny _ _ (pyIter _) _ _ _)))); dsimp only; walk1) | fail "no step"))
          rename News G L _ _ => N10
          have N11 : News G L _ ((l, listObj vl nn) :: (O, listObj vo nO) :: (155, tabObj ps') :: (pre ++ (W, listObj ws 0) :: (I, oI) :: rest)) := News.swap N10
          clear N10
          k_dflt (refine' Does.use (greatest_does _ _ _ _ _ _ 6 l vl (wit i ns) nn ((O, listObj vo nO) :: (155, tabObj ps') :: (pre ++ (W, listObj ws 0) :: (I, oI) :: rest)) hvl (by omega) (by omega) (off_cons ?zO (off_cons f1.symm ?zp))) ?k1 ?k2 ?k3 ?k4 ?kK ?kd ?ku ?kN ?zz)
          case k1 => k_asm
          case k2 => k_asm
          case k3 => k_asm
          case k4 => k_asm
          case kN => exact N11
          case kK => first | exact rfl | assumption
          case kd => decide
          case ku => decide
          case zO => exact fun q => hoO (l, listObj vl nn) (.head _) q.symm
          case zp =>
            intro p hp
            rcases List.mem_append.mp hp with hp | hp
            · exact (hpre2 p hp).2
            · rcases List.mem_cons.mp hp with rfl | hp
              · exact f3
              · rcases List.mem_cons.mp hp with rfl | hp
                · exact i1.symm
                · exact (f4 p hp).2.1
          case zz =>
            rintro r12 news12 h12 tk12 F12 N12 ⟨g, vg, rfl, rfl, hog, hg⟩
            rw [← west_grt 6 (wit i ns) (by omega)] at hg
            refine ne_things (News.isList N12 (.tail _ (.tail _ (.head _)))) hO (News.isList N12 (.head _)) hg (by exact Nat.le_of_ble_eq_true rfl) ?_
            rw [decide_eq_true (rfl : west (wit i ns) = west (wit i ns))]
            (repeat' (first | (k_unfold; (try dsimp only)) | ((fail_if_success (with_reducible show wpAny _ _ (call (Value.ref _) _ _) _ _ _)); (((fail_if_success (with_reducible show wpAny _ _ (exec (Stmt.While _ _ _ _) _) _ _ _)); (fail_if_success (with_reducible show wpAny _ _ (exec (Stmt.For _ _ _ _ _) _) _ _ _)); (fail_if_success (with_reducible show wpAny _ _ (pyIter _) _ _ _)))); walk1) | ((fail_if_success (with_reducible show wpAny _ _ (call (Value.ref _) _ _) _ _ _)); (((fail_if_success (with_reducible show wpAny _ _ (exec (Stmt.While _ _ _ _) _) _ _ _)); (fail_if_success (with_reducible show wpAny _ _ (exec (Stmt.For _ _ _ _ _) _) _ _ _)); (fail_if_success (with_reducible show wpAny _ _ (pyIter _) _ _ _)))); dsimp only; walk1) | fail "no step"))
            dsimp only
            refine execsR_any ?_
            (repeat' (first | (k_unfold; (try dsimp only)) | ((fail_if_success (with_reducible show wpAny _ _ (call (Value.ref _) _ _) _ _ _)); (((fail_if_success (with_reducible show wpAny _ _ (exec (Stmt.While _ _ _ _) _) _ _ _)); (fail_if_success (with_reducible show wpAny _ _ (exec (Stmt.For _ _ _ _ _) _) _ _ _)); (fail_if_success (with_reducible show wpAny _ _ (pyIter _) _ _ _)))); walk1) | ((fail_if_success (with_reducible show wpAny _ _ (call (Value.ref _) _ _) _ _ _)); (((fail_if_success (with_reducible show wpAny _ _ (exec (Stmt.While _ _ _ _) _) _ _ _)); (fail_if_success (with_reducible show wpAny _ _ (exec (Stmt.For _ _ _ _ _) _) _ _ _)); (fail_if_success (with_reducible show wpAny _ _ (pyIter _) _ _ _)))); dsimp only; walk1) | fail "no step"))
            have N13 : News G L h12 ((O, listObj vo nO) :: (l, listObj vl nn) :: (155, tabObj ps') :: (pre ++ (W, listObj ws 0) :: (I, oI) :: rest)) := News.sub N12 fun p hp => by
              simp only [List.mem_cons] at hp ⊢
              rcases hp with h | h | h | h <;> simp only [h, true_or, or_true]
            clear N12
            k_dflt (refine' Does.use (greater_ahead_does _ _ _ _ _ _ O vo (west (wit i ns)) nO _ hO (by omega)) ?k1 ?k2 ?k3 ?k4 ?kK ?kd ?ku ?kN ?zz)
            case k1 => k_asm
            case k2 => k_asm
            case k3 => k_asm
            case k4 => k_asm
            case kN => exact N13
            case kK => first | exact rfl | assumption
            case kd => decide
            case ku => decide
            case zz =>
              rintro r14 news14 h14 tk14 F14 N14 ⟨t14, rfl, rfl⟩
              (repeat' (first | (k_unfold; (try dsimp only)) | ((fail_if_success (with_reducible show wpAny _ _ (call (Value.ref _) _ _) _ _ _)); (((fail_if_success (with_reducible show wpAny _ _ (exec (Stmt.While _ _ _ _) _) _ _ _)); (fail_if_success (with_reducible show wpAny _ _ (exec (Stmt.For _ _ _ _ _) _) _ _ _)); (fail_if_success (with_reducible show wpAny _ _ (pyIter _) _ _ _)))); walk1) | ((fail_if_success (with_reducible show wpAny _ _ (call (Value.ref _) _ _) _ _ _)); (((fail_if_success (with_reducible show wpAny _ _ (exec (Stmt.While _ _ _ _) _) _ _ _)); (fail_if_success (with_reducible show wpAny _ _ (exec (Stmt.For _ _ _ _ _) _) _ _ _)); (fail_if_success (with_reducible show wpAny _ _ (pyIter _) _ _ _)))); dsimp only; walk1) | fail "no step"))
              have N15 := News.swap N14
              clear N13 N14
              k_dflt (refine' Does.use (one_between_does _ _ _ _ _ _ l vl (wit i ns) nn _ hvl (by omega)) ?k1 ?k2 ?k3 ?k4 ?kK ?kd ?ku ?kN ?zz)
              case k1 => k_asm
              case k2 => k_asm
              case k3 => k_asm
              case k4 => k_asm
              case kN => exact N15
              case kK => first | exact rfl | assumption
              case kd => decide
              case ku => decide
              case zz =>
                rintro r16 news16 h16 tk16 F16 N16 ⟨t16, rfl, rfl⟩
                rw [west_pairs (wit i ns)]
                generalize obOut (wit i ns) (wit i ns).length = ob
                (repeat' (first | (k_unfold; (try dsimp only)) | ((fail_if_success (with_reducible show wpAny _ _ (call (Value.ref _) _ _) _ _ _)); (((fail_if_success (with_reducible show wpAny _ _ (exec (Stmt.While _ _ _ _) _) _ _ _)); (fail_if_success (with_reducible show wpAny _ _ (exec (Stmt.For _ _ _ _ _) _) _ _ _)); (fail_if_success (with_reducible show wpAny _ _ (pyIter _) _ _ _)))); walk1) | ((fail_if_success (with_reducible show wpAny _ _ (call (Value.ref _) _ _) _ _ _)); (((fail_if_success (with_reducible show wpAny _ _ (exec (Stmt.While _ _ _ _) _) _ _ _)); (fail_if_success (with_reducible show wpAny _ _ (exec (Stmt.For _ _ _ _ _) _) _ _ _)); (fail_if_success (with_reducible show wpAny _ _ (pyIter _) _ _ _)))); dsimp only; walk1) | fail "no step"))
                · exact absurd rfl (by assumption)
                dsimp only
                refine execsR_any ?_
                (repeat' (first | (k_unfold; (try dsimp only)) | ((fail_if_success (with_reducible show wpAny _ _ (call (Value.ref _) _ _) _ _ _)); (fail_if_success (with_reducible show wpAny _ _ (compareOp _ (Value.ref _) (Value.ref _)) _ _ _)); (((fail_if_success (with_reducible show wpAny _ _ (exec (Stmt.While _ _ _ _) _) _ _ _)); (fail_if_success (with_reducible show wpAny _ _ (exec (Stmt.For _ _ _ _ _) _) _ _ _)); (fail_if_success (with_reducible show wpAny _ _ (pyIter _) _ _ _)))); walk1) | ((fail_if_success (with_reducible show wpAny _ _ (call (Value.ref _) _ _) _ _ _)); (fail_if_success (with_reducible show wpAny _ _ (compareOp _ (Value.ref _) (Value.ref _)) _ _ _)); (((fail_if_success (with_reducible show wpAny _ _ (exec (Stmt.While _ _ _ _) _) _ _ _)); (fail_if_success (with_reducible show wpAny _ _ (exec (Stmt.For _ _ _ _ _) _) _ _ _)); (fail_if_success (with_reducible show wpAny _ _ (pyIter _) _ _ _)))); dsimp only; walk1) | fail "no step"))
                refine eq_things (News.isList N16 (.tail _ (.head _))) hO (News.isList N16 (.tail _ (.tail _ (.tail _ (List.mem_append_right _ (.head _)))))) hw (by exact Nat.le_of_ble_eq_true rfl) ?_
                by_cases hgoal : west (wit i ns) = (sortD ns).reverse
                · rw [decide_eq_true hgoal]
                  (repeat' (first | (k_unfold; (try dsimp only)) | ((fail_if_success (with_reducible show wpAny _ _ (call (Value.ref _) _ _) _ _ _)); (fail_if_success (with_reducible show wpAny _ _ (compareOp _ (Value.ref _) (Value.ref _)) _ _ _)); (((fail_if_success (with_reducible show wpAny _ _ (exec (Stmt.While _ _ _ _) _) _ _ _)); (fail_if_success (with_reducible show wpAny _ _ (exec (Stmt.For _ _ _ _ _) _) _ _ _)); (fail_if_success (with_reducible show wpAny _ _ (pyIter _) _ _ _)))); walk1) | ((fail_if_success (with_reducible show wpAny _ _ (call (Value.ref _) _ _) _ _ _)); (fail_if_success (with_reducible show wpAny _ _ (compareOp _ (Value.ref _) (Value.ref _)) _ _ _)); (((fail_if_success (with_reducible show wpAny _ _ (exec (Stmt.While _ _ _ _) _) _ _ _)); (fail_if_success (with_reducible show wpAny _ _ (exec (Stmt.For _ _ _ _ _) _) _ _ _)); (fail_if_success (with_reducible show wpAny _ _ (pyIter _) _ _ _)))); dsimp only; walk1) | fail "no step"))
                  refine join_listW (ys := (west (wit i ns)).map th) (News.isList N16 (.tail _ (.head _))) (by rw [List.toList_toArray]; exact hO.strs) (by decide) (Nat.le_trans (th_lens _) (by omega)) fun tj kj => ?_
                  have hpg := amp_len (west (wit i ns))
                  generalize Txt.join (Str.ofString "&") ((west (wit i ns)).map th) = pg at hpg ⊢
                  (repeat' (first | (k_unfold; (try dsimp only)) | ((fail_if_success (with_reducible show wpAny _ _ (call (Value.ref _) _ _) _ _ _)); (fail_if_success (with_reducible show wpAny _ _ (compareOp _ (Value.ref _) (Value.ref _)) _ _ _)); (((fail_if_success (with_reducible show wpAny _ _ (exec (Stmt.While _ _ _ _) _) _ _ _)); (fail_if_success (with_reducible show wpAny _ _ (exec (Stmt.For _ _ _ _ _) _) _ _ _)); (fail_if_success (with_reducible show wpAny _ _ (pyIter _) _ _ _)))); walk1) | ((fail_if_success (with_reducible show wpAny _ _ (call (Value.ref _) _ _) _ _ _)); (fail_if_success (with_reducible show wpAny _ _ (compareOp _ (Value.ref _) (Value.ref _)) _ _ _)); (((fail_if_success (with_reducible show wpAny _ _ (exec (Stmt.While _ _ _ _) _) _ _ _)); (fail_if_success (with_reducible show wpAny _ _ (exec (Stmt.For _ _ _ _ _) _) _ _ _)); (fail_if_success (with_reducible show wpAny _ _ (pyIter _) _ _ _)))); dsimp only; walk1) | fail "no step"))
                  k_dflt (refine' Does.use (escape_does _ _ _ _ _ _ pg _ _ (by omega)) ?k1 ?k2 ?k3 ?k4 ?kK ?kd ?ku ?kN ?zz)
                  case k1 => k_asm
                  case k2 => k_asm
                  case k3 => k_asm
                  case k4 => k_asm
                  case kN => k_asm
                  case kK => first | exact rfl | assumption
                  case kd => decide
                  case ku => decide
                  case zz =>
                    rintro r18 news18 h18 tk18 F18 N18 ⟨t18, rfl, rfl⟩
                    (repeat' (first | (k_unfold; (try dsimp only)) | ((fail_if_success (with_reducible show wpAny _ _ (call (Value.ref _) _ _) _ _ _)); (fail_if_success (with_reducible show wpAny _ _ (compareOp _ (Value.ref _) (Value.ref _)) _ _ _)); (((fail_if_success (with_reducible show wpAny _ _ (exec (Stmt.While _ _ _ _) _) _ _ _)); (fail_if_success (with_reducible show wpAny _ _ (exec (Stmt.For _ _ _ _ _) _) _ _ _)); (fail_if_success (with_reducible show wpAny _ _ (pyIter _) _ _ _)))); walk1) | ((fail_if_success (with_reducible show wpAny _ _ (call (Value.ref _) _ _) _ _ _)); (fail_if_success (with_reducible show wpAny _ _ (compareOp _ (Value.ref _) (Value.ref _)) _ _ _)); (((fail_if_success (with_reducible show wpAny _ _ (exec (Stmt.While _ _ _ _) _) _ _ _)); (fail_if_success (with_reducible show wpAny _ _ (exec (Stmt.For _ _ _ _ _) _) _ _ _)); (fail_if_success (with_reducible show wpAny _ _ (pyIter _) _ _ _)))); dsimp only; walk1) | fail "no step"))
                    k_dflt (refine' Does.use (spelled_does _ _ _ _ _ _ pg _ _ (by omega)) ?k1 ?k2 ?k3 ?k4 ?kK ?kd ?ku ?kN ?zz)
                    case k1 => k_asm
                    case k2 => k_asm
                    case k3 => k_asm
                    case k4 => k_asm
                    case kN => exact N18
                    case kK => first | exact rfl | assumption
                    case kd => decide
                    case ku => decide
                    case zz =>
                      rintro r19 news19 h19 tk19 F19 N19 ⟨t19, rfl, rfl⟩
                      (repeat' (first | (k_unfold; (try dsimp only)) | ((fail_if_success (with_reducible show wpAny _ _ (call (Value.ref _) _ _) _ _ _)); (fail_if_success (with_reducible show wpAny _ _ (compareOp _ (Value.ref _) (Value.ref _)) _ _ _)); (((fail_if_success (with_reducible show wpAny _ _ (exec (Stmt.While _ _ _ _) _) _ _ _)); (fail_if_success (with_reducible show wpAny _ _ (exec (Stmt.For _ _ _ _ _) _) _ _ _)); (fail_if_success (with_reducible show wpAny _ _ (pyIter _) _ _ _)))); walk1) | ((fail_if_success (with_reducible show wpAny _ _ (call (Value.ref _) _ _) _ _ _)); (fail_if_success (with_reducible show wpAny _ _ (compareOp _ (Value.ref _) (Value.ref _)) _ _ _)); (((fail_if_success (with_reducible show wpAny _ _ (exec (Stmt.While _ _ _ _) _) _ _ _)); (fail_if_success (with_reducible show wpAny _ _ (exec (Stmt.For _ _ _ _ _) _) _ _ _)); (fail_if_success (with_reducible show wpAny _ _ (pyIter _) _ _ _)))); dsimp only; walk1) | fail "no step"))
                      refine (show Q _ _ from ?_)
                      rw [beq_self_eq_true]
                      rename News G L h19 _ => N20
                      rename Fr G L h19 _ => F20
                      exact hQ _ _ (hG ▸ F20.keep) ⟨GrownAt.of N20 (.tail _ (.tail _ (.head _))), trivial⟩
                · rw [decide_eq_false hgoal]
                  (repeat' (first | (k_unfold; (try dsimp only)) | ((fail_if_success (with_reducible show wpAny _ _ (call (Value.ref _) _ _) _ _ _)); (fail_if_success (with_reducible show wpAny _ _ (compareOp _ (Value.ref _) (Value.ref _)) _ _ _)); (((fail_if_success (with_reducible show wpAny _ _ (exec (Stmt.While _ _ _ _) _) _ _ _)); (fail_if_success (with_reducible show wpAny _ _ (exec (Stmt.For _ _ _ _ _) _) _ _ _)); (fail_if_success (with_reducible show wpAny _ _ (pyIter _) _ _ _)))); walk1) | ((fail_if_success (with_reducible show wpAny _ _ (call (Value.ref _) _ _) _ _ _)); (fail_if_success (with_reducible show wpAny _ _ (compareOp _ (Value.ref _) (Value.ref _)) _ _ _)); (((fail_if_success (with_reducible show wpAny _ _ (exec (Stmt.While _ _ _ _) _) _ _ _)); (fail_if_success (with_reducible show wpAny _ _ (exec (Stmt.For _ _ _ _ _) _) _ _ _)); (fail_if_success (with_reducible show wpAny _ _ (pyIter _) _ _ _)))); dsimp only; walk1) | fail "no step"))
                  dsimp only
                  refine execsR_any ?_
                  (repeat' (first | (k_unfold; (try dsimp only)) | ((fail_if_success (with_reducible show wpAny _ _ (call (Value.ref _) _ _) _ _ _)); (fail_if_success (with_reducible show wpAny _ _ (compareOp _ (Value.ref _) (Value.ref _)) _ _ _)); (((fail_if_success (with_reducible show wpAny _ _ (exec (Stmt.While _ _ _ _) _) _ _ _)); (fail_if_success (with_reducible show wpAny _ _ (exec (Stmt.For _ _ _ _ _) _) _ _ _)); (fail_if_success (with_reducible show wpAny _ _ (pyIter _) _ _ _)))); walk1) | ((fail_if_success (with_reducible show wpAny _ _ (call (Value.ref _) _ _) _ _ _)); (fail_if_success (with_reducible show wpAny _ _ (compareOp _ (Value.ref _) (Value.ref _)) _ _ _)); (((fail_if_success (with_reducible show wpAny _ _ (exec (Stmt.While _ _ _ _) _) _ _ _)); (fail_if_success (with_reducible show wpAny _ _ (exec (Stmt.For _ _ _ _ _) _) _ _ _)); (fail_if_success (with_reducible show wpAny _ _ (pyIter _) _ _ _)))); dsimp only; walk1) | fail "no step"))
                  refine wpR_any ?_
                  (repeat' (first | (k_unfold; (try dsimp only)) | ((fail_if_success (with_reducible show wpAny _ _ (call (Value.ref _) _ _) _ _ _)); (fail_if_success (with_reducible show wpAny _ _ (compareOp _ (Value.ref _) (Value.ref _)) _ _ _)); (((fail_if_success (with_reducible show wpAny _ _ (exec (Stmt.While _ _ _ _) _) _ _ _)); (fail_if_success (with_reducible show wpAny _ _ (exec (Stmt.For _ _ _ _ _) _) _ _ _)); (fail_if_success (with_reducible show wpAny _ _ (pyIter _) _ _ _)))); walk1) | ((fail_if_success (with_reducible show wpAny _ _ (call (Value.ref _) _ _) _ _ _)); (fail_if_success (with_reducible show wpAny _ _ (compareOp _ (Value.ref _) (Value.ref _)) _ _ _)); (((fail_if_success (with_reducible show wpAny _ _ (exec (Stmt.While _ _ _ _) _) _ _ _)); (fail_if_success (with_reducible show wpAny _ _ (exec (Stmt.For _ _ _ _ _) _) _ _ _)); (fail_if_success (with_reducible show wpAny _ _ (pyIter _) _ _ _)))); dsimp only; walk1) | fail "no step"))
                  rename News G L _ _ => N17
                  have oI' : O ≠ I := fun q => hoO (I, oI) (.tail _ (.tail _ (List.mem_append_right _ (.tail _ (.head _))))) q.symm
                  have oW : W ≠ O := hoO (W, listObj ws 0) (.tail _ (.tail _ (List.mem_append_right _ (.head _))))
                  have o155 : O ≠ 155 := fun q => hoO (155, tabObj ps') (.tail _ (.head _)) q.symm
                  have N18 : News G L _ ((I, oI) :: (O, listObj vo nO) :: (155, tabObj ps') :: (W, listObj ws 0) :: (pre ++ rest)) := News.sub N17 fun p hp => by
                    simp only [List.mem_cons, List.mem_append] at hp ⊢
                    rcases hp with h | h | h | h | h | h <;> simp only [h, true_or, or_true]
                  refine TurnEnd.next (by k_asm) N18 (off_cons oI' (off_cons i2 (off_cons i3 fun p hp => ?_))) ⟨O, vo, nO, ps', pre ++ rest, by walk_at "m_look", by walk_at "m_look", rfl, hO, htab', .inr hgoal, ⟨o155, f2, oW⟩, fun p hp => ?_⟩
                  · rcases List.mem_append.mp hp with hp | hp
                    · exact hpre1 p hp (I, oI) (.tail _ (.head _))
                    · exact i4 p hp
                  · rcases List.mem_append.mp hp with hp | hp
                    · exact ⟨(hpre2 p hp).1, hoO p (.tail _ (.tail _ (List.mem_append_left _ hp))), hpre1 p hp (W, listObj ws 0) (.head _)⟩
                    · exact ⟨(f4 p hp).1, hoO p (.tail _ (.tail _ (List.mem_append_right _ (.tail _ (.tail _ hp))))), (f4 p hp).2.2⟩
      · rintro m₁ news₁ h tk ⟨l, vl, nn, ps, rest, hth, hgo, rfl, hvl, htab, hnot, ⟨f1, f2, f3⟩, f4⟩ F₁ N₁
        exfalso
        rcases hnot with h0 | h0
        · unfold turnsOf at h0; split at h0 <;> omega
        · exact h0 (wit_goal _ ns (by unfold turnsOf; split <;> omega))
theorem anew_Fin : True := by
  w_top off
  exact True.intro
theorem goodWG_true {c : ClaimW} {cl : Str → Option Addr} {mean : PySem.ExcName → Option Value} {args : List WData} {s₁ s' : Shared} {tabs : List (Addr × Addr)} (hT : TabsAt tabs s₁.heap) (hn : ∀ cls, c.raises args cls = false)
    (hp : c.post args (.bool true) args = true) (hk : ∀ b o, (ghostOf s₁.heap tabs).get? b = some o → s'.heap.get? b = some o) (hgr : GrownAll tabs s'.heap) (hos : s'.os = s₁.os) (hg : s'.gens = #[]) : GoodWG c cl mean args s₁ (.ok (.ret (.bool true))) s' := by
  have keep : ∀ b o, b ∉ tabs.map (·.2) → s₁.heap.get? b = some o → s'.heap.get? b = some o := fun b o hb e => hk b o (ghost_ne e hb)
  have grown : ∀ b o, b ∈ tabs.map (·.2) → s₁.heap.get? b = some o → isCodeTable s₁.heap b ∧ o = tabObj #[] ∧ ∃ ps, s'.heap.get? b = some (tabObj ps) := fun b o hb e => by
    obtain ⟨q, hq, rfl⟩ := List.mem_map.mp hb
    have e2 := (hT q hq).2
    rw [e] at e2
    exact ⟨((hT q hq).1.tab (hT q hq).2).isCodeTable, Option.some.inj e2, hgr.get q hq⟩
  refine ⟨.inl ⟨.bool true, .bool true, [], rfl, hn, .bool true, hp, fun _ => ⟨List.nodup_nil, fun a h => nomatch h⟩⟩, ⟨fun b o e => ?_, fun b o e => ?_⟩, hos, .of_eq hg⟩
  · by_cases hb : b ∈ tabs.map (·.2)
    · obtain ⟨ht, rfl, ps, hP⟩ := grown b o hb e
      exact .inr (.inl ⟨ht, rfl, #[], ps, rfl, by rw [Array.empty_append]; exact hP⟩)
    · exact .inl (keep b o hb e)
  · by_cases hb : b ∈ tabs.map (·.2)
    · obtain ⟨_, _, ps, hP⟩ := grown b o hb e
      exact ⟨_, hP⟩
    · exact ⟨o, keep b o hb e⟩
namespace Rd
theorem PySem.W.holds_open {r : OpenRow} {q : Program} {loose : List Str} {Xt : Shared → Bool} {XP : (Str → Option Value) → Heap → Prop} {α : Type} {Yf : Shared → α} {Ya : World → α} {YP : World → Heap → Prop} {d : DefRec} {kwd : List (Str × Expr)} {N : Nat}
    (left : LeftO r.prog q loose Xt Yf Ya N) (hY : ∀ w s, Yf s = Ya w → YP w s.heap) (hYk : ∀ w h h', YP w h → (∀ b o, h.get? b = some o → h'.get? b = some o) → YP w h')
    (hX : ∀ s, Xt s = true → XP (s.heap.nsMap mainGlobals) s.heap) (hXk : ∀ mg h h', XP mg h → (∀ b o, h.get? b = some o → h'.get? b = some o) → XP mg h')
    (hdef : defOf q r.name = some (d, kwd)) (hp : r.prog.theDef r.name = some (d.params, d.body, d.scope)) (hk : kwWritten? d.params.kwonlyargs d.params.kw_defaults = some kwd) (hRf : ∀ s, Xt s = true → RecFacts r.records s.heap) (hwr : (!r.writes || r.records.isEmpty) = true)
    (k1 : r.wellSaid = true) (ok : (chainsOk q && opensWell r.prog && (frees r.toRowW && r.within.isEmpty)) = true) (hb : r.prog.bare) (hw : r.toRowW.promised)
    (walk : WalkO q loose XP YP r.toRowW d kwd runG) : r.Holds := by
  refine ⟨k1, hw, holdsBy_moves (e := fun _ => pure (.done (.ret (.bool true)))) (open_anyG (r := r.toRowW) (run := runG) left hY hYk hX hXk hRf hwr ok hb hw (fun vs w s mg f Q E hg hf h => fun Γ p hΓ => ?_) (fun w s hg G n hn => ?_) fun w s₀ s₁ mg mb G Y args vs as hpre hlay L low => ?_)⟩
  · have h1 := h Γ p hΓ
    unfold runG at h1
    rw [wp_guardT] at h1 ⊢
    split at h1
    · rename_i hgood
      rw [if_pos hgood]
      rw [Sem.wp_bind']
      refine (Sem.wp_nsGet _ Γ _ p s hg _ _).mpr ?_
      rw [hf]
      show Sem.wp _ Γ (PySem.call f vs >>= fun v => ret v) _ _ p s
      rw [Sem.wp_bind']
      exact Sem.wp_mono _ Γ _ (fun _ _ _ x => x) (fun _ _ _ x => x) p s h1
    · rename_i hgood
      rw [if_neg hgood]
      exact h1
  · obtain rfl : n = r.name := by split at hn <;> simp_all
    exact pinned_of_view hg G hdef hp hk
  · obtain ⟨a, o, pm, cd, doc, dV, kV, h1, h2, h3, h4, h5⟩ := G.fn hdef
    exact ⟨.ref a, h1, walk w s₀ s₁ mg mb G Y a o pm cd doc dV kV h2 h3 h4 h5 (defOf_name hdef ▸ h1) L.gens args vs as hpre hlay L.reads L.well (L.low low)⟩
theorem final.tw357486453476387696 : True := True.intro
theorem final.tw11705532050866640259 : True := True.intro
theorem final.tw8047356578162981746 : True := True.intro
theorem final.tw7211586077067319730 : True := True.intro
theorem final.tw15714951886830676366 : True := True.intro
theorem final.tw12440307129338037583 : True := True.intro
theorem final.tw7114046225954329641 : True := True.intro
theorem final.tw247228718871260148 : True := True.intro
theorem final.tw8501374608611634319 : True := True.intro
theorem final.tw11599576305323565746 : True := True.intro
theorem final.tw6729702351329451944 : True := True.intro
theorem final.tw12173373742852938450 : True := True.intro
theorem final.tw10924134501622976724 : True := True.intro
theorem final.tw16282801655154581433 : True := True.intro
theorem final.tw17219077055286777982 : True := True.intro
theorem final.tw15952779980575229880 : True := True.intro
theorem final.tw3568610349737099401 : True := True.intro
theorem final.tw12946249128060055607 : True := True.intro
theorem final.tw15550207897745987962 : True := True.intro
theorem final.tw12228699650007866912 : True := True.intro
theorem final.tw10641186398239890157 : True := True.intro
theorem final.tw6164027257781329682 : True := True.intro
theorem final.tw5204868076133591297 : True := True.intro
theorem final.tw17731621870048512197 : True := True.intro
theorem final.tw5482386260672144831 : True := True.intro
theorem final.tw5379656457359995822 : True := True.intro
theorem final.tw4405300665062650697 : True := True.intro
theorem final.tw9357707147706775193 : True := True.intro
theorem final.tw2556134175036269643 : True := True.intro
theorem final.tw4232632420767926882 : True := True.intro
theorem final.tw3231484792522989078 : True := True.intro
theorem final.tw12403971223858573845 : True := True.intro
theorem final.tw2258925682110820462 : True := True.intro
theorem final.tw11040223601264081146 : True := True.intro
theorem final.tw464868239543204325 : True := True.intro
theorem final.tw5406395514411526326 : True := True.intro
theorem final.tw6350748787052636024 : True := True.intro
theorem final.tw1356191967907390960 : True := True.intro
theorem final.tw7540769648838529163 : True := True.intro
theorem final.tw2477181398150683788 : True := True.intro
theorem final.tw1997577668143213916 : True := True.intro
theorem final.tw3865977738483639633 : True := True.intro
theorem final.tw4399101426943293651 : True := True.intro
theorem final.tw13686690710289977937 : True := True.intro
theorem final.tw314090536354705622 : True := True.intro
theorem final.tw1908326560164924203 : True := True.intro
theorem final.tw10248020952665577069 : True := True.intro
theorem final.tw1060502087212942219 : True := True.intro
theorem final.tw10266130437522915116 : True := True.intro
theorem final.tw11059206049826494437 : True := True.intro
theorem final.tw3452575660597196399 : True := True.intro
theorem final.tw14302759183308988611 : True := True.intro
theorem final.tw9345868692387457579 : True := True.intro
theorem final.tw18189921911232487489 : True := True.intro
theorem final.tw2114750843474891031 : True := True.intro
theorem final.tw6029468737744639282 : True := True.intro
theorem final.tw12538850578602415712 : True := True.intro
theorem final.tw8353513739623450680 : True := True.intro
theorem final.tw3622921972206911970 : True := True.intro
theorem final.tw13930428484198465191 : True := True.intro
theorem final.tw13722458297877197292 : True := True.intro
theorem final.tw6255447012406690852 : True := True.intro
theorem final.tw4401829451563095788 : True := True.intro
theorem final.tw3085465767538383053 : True := True.intro
theorem final.tw9351555917890440572 : True := True.intro
theorem final.tw7907513162366976861 : True := True.intro
theorem final.tw15959256833726067267 : True := True.intro
theorem final.tw16488231253169092037 : True := True.intro
theorem final.tw10013775675657919022 : True := True.intro
theorem final.tw13089804277000804366 : True := True.intro
theorem final.tw13519200732274550713 : True := True.intro
theorem final.tw4437080748890482257 : True := True.intro
theorem final.tw17686061623077401816 : True := True.intro
theorem final.tw6316478657487793852 : True := True.intro
theorem final.tw8835820952001874307 : True := True.intro
theorem final.tw4117347126848750643 : True := True.intro
theorem final.tw16395802836203200911 : True := True.intro
theorem final.tw4888557366265852984 : True := True.intro
theorem final.tw1215587025613304731 : True := True.intro
theorem final.tw3607850768147125191 : True := True.intro
theorem final.tw8052196685688298722 : True := True.intro
theorem final.tw3237872999952715211 : True := True.intro
theorem final.tw8635203870561515963 : True := True.intro
theorem final.tw4120447656994274652 : True := True.intro
theorem final.tw4971799389060820296 : True := True.intro
theorem final.tw18008677087826737188 : True := True.intro
theorem final.tw15405809518559782226 : True := True.intro
theorem final.tw14689126805125488737 : True := True.intro
theorem final.tw18412676936863704444 : True := True.intro
theorem final.tw11241050282251169834 : True := True.intro
theorem final.tw3121169397791741802 : True := True.intro
theorem final.tw16634827370098241091 : True := True.intro
theorem final.tw8451996961354153738 : True := True.intro
theorem final.tw1761161993959313675 : True := True.intro
theorem final.tw17809379690524229849 : True := True.intro
theorem final.tw6463898591007439565 : True := True.intro
theorem final.tw4642821012913572380 : True := True.intro
theorem final.tw4725064817451404882 : True := True.intro
theorem final.tw778883289156243670 : True := True.intro
theorem final.tw4262124506156454272 : True := True.intro
theorem final.tw11405369755450884278 : True := True.intro
theorem final.tw14164346464976512017 : True := True.intro
theorem final.tw6673101197710743999 : True := True.intro
theorem final.tw12456485512070581395 : True := True.intro
theorem final.tw12315996679678312194 : True := True.intro
theorem final.tw2336800141437513891 : True := True.intro
theorem final.tw10038892215461700947 : True := True.intro
theorem final.tw9821220845333231913 : True := True.intro
theorem final.tw2252238934396784876 : True := True.intro
theorem final.tw7836087678693669594 : True := True.intro
theorem final.tw11226655996094174360 : True := True.intro
theorem final.tw13675959047830995805 : True := True.intro
theorem final.tw11319372544569562311 : True := True.intro
theorem final.tw3906563983836177869 : True := True.intro
theorem final.tw14576167562536294799 : True := True.intro
theorem final.tw11912000572633329541 : True := True.intro
theorem final.tw17293721853478822692 : True := True.intro
theorem final.tw1459259271424502893 : True := True.intro
theorem final.tw7361514356944179691 : True := True.intro
theorem final.tw11634982699609467400 : True := True.intro
theorem final.tw10621173122856048220 : True := True.intro
theorem final.tw14449843517236234731 : True := True.intro
theorem final.tw13322873793364621564 : True := True.intro
theorem final.tw1507279523710400074 : True := True.intro
theorem final.tw7135074616795338048 : True := True.intro
theorem final.tw5732135811360374244 : True := True.intro
theorem final.tw18359346243573263133 : True := True.intro
theorem final.tw7682791318822722426 : True := True.intro
theorem final.tw7831050809938361784 : True := True.intro
theorem final.tw13787264399813124384 : True := True.intro
theorem final.tw7190714896446106218 : True := True.intro
theorem final.tw68629451464532161 : True := True.intro
theorem final.tw99547543618968331 : True := True.intro
theorem final.tw3953256915638105059 : True := True.intro
theorem final.tw14325711730626879759 : True := True.intro
theorem final.tw1520373503066986296 : True := True.intro
theorem final.tw9356138599964812884 : True := True.intro
theorem final.tw5068914984035759905 : True := True.intro
theorem final.tw8634707138625681653 : True := True.intro
theorem final.tw17324448895580730841 : True := True.intro
theorem final.tw4435501529111159821 : True := True.intro
theorem final.tw2339376072904812691 : True := True.intro
theorem final.tw4778700588707724218 : True := True.intro
theorem final.tw8805364440468254591 : True := True.intro
theorem final.tw9568136109801955721 : True := True.intro
theorem final.tw2265770449839078756 : True := True.intro
theorem final.tw15244539062501632184 : True := True.intro
theorem final.tw8044630282748559776 : True := True.intro
theorem final.tw14314510761554773156 : True := True.intro
theorem final.tw16268292832000558505 : True := True.intro
theorem final.tw1552181474024145779 : True := True.intro
theorem final.tw13078035101995322451 : True := True.intro
theorem final.tw11773827960105376293 : True := True.intro
theorem final.tw14131722802553339794 : True := True.intro
theorem final.tw13042150085576281135 : True := True.intro
theorem final.tw4275962106575340079 : True := True.intro
theorem final.tw16587238230127613708 : True := True.intro
theorem final.tw15153738720084078698 : True := True.intro
theorem final.tw14609242294985710583 : True := True.intro
theorem final.tw14555460981336366803 : True := True.intro
theorem final.tw11966891724671107701 : True := True.intro
theorem final.tw14345504856004312533 : True := True.intro
theorem final.tw12678130705655064227 : True := True.intro
theorem final.tw2811008035105794813 : True := True.intro
theorem final.tw1377496519050368238 : True := True.intro
theorem final.tw16377760712957485138 : True := True.intro
theorem final.tw1125457133716002032 : True := True.intro
theorem final.tw2404323164774514264 : True := True.intro
theorem final.tw9278451334351364238 : True := True.intro
theorem final.tw16188804503676695021 : True := True.intro
theorem final.tw15666200856831203493 : True := True.intro
theorem final.tw17361348045126793634 : True := True.intro
theorem final.tw10978044180973779355 : True := True.intro
theorem final.tw17716884096582053555 : True := True.intro
theorem final.tw13121915832094418149 : True := True.intro
theorem final.tw15794389622165882779 : True := True.intro
theorem final.tw6642983916309044120 : True := True.intro
theorem final.tw6221046731577270844 : True := True.intro
theorem final.tw17189192796106299199 : True := True.intro
theorem final.tw9115209339917638110 : True := True.intro
theorem final.tw15121788432524857250 : True := True.intro
set_option Elab.async true in
theorem final : PySem.Challenge.rw_xp0010_01.Holds := by
  w_on
  o_law
  o_head (kmHook Mine.hd.heap_1 [2, 3, 15, 17, 18, 20, 21, 22, 24, 25, 27, 28, 29, 31, 32, 34, 35, 36, 37, 38, 40, 41, 43, 44, 45, 46, 47, 49, 50, 52, 53, 54, 57, 62, 63, 64, 66, 67, 69, 70, 71, 73, 74, 76, 77, 78, 79, 81, 82, 84, 85, 86, 88, 89, 91, 92, 93, 95, 96, 98, 99, 100, 102, 103, 105, 106, 107, 108, 110, 111, 113, 114, 115, 117, 118, 120, 121, 122, 123, 125, 126, 128, 129, 130, 131, 132, 133, 134, 137, 139, 140, 142, 143, 144, 147, 148, 149, 152, 153, 154, 156, 157, 159, 160, 161, 163, 164, 166, 167, 168, 170, 171, 173, 174, 175, 177, 178, 180, 181, 182, 184, 185, 187, 188, 189, 192, 193, 194, 196, 197, 199, 200] (fun _ => by kernel_rfl) [155])
  case hw => w_witness2
  k_fill
  intro w s₀ s₁ mg mb G Y fa o pm cd doc dV kV ho hd hcd hD hmg hg args vals as hpre hlay hrd hwl hlo
  have KX := km_in_of Y
  have hT8 := km_tabs_of Y
  refine Ground.open G ?_
  intro T B D TE TW
  have hT9 : TabsAt [(159, 155)] s₁.heap := List.forall_mem_cons.mpr ⟨⟨codeHd_of_K (c := 159) (P := 155) KX (by kernel_rfl), hT8 155 (.head _)⟩, fun _ h => nomatch h⟩
  have hfa : fa = 200 := by
    have h1 := mg_of KX T.g (n := PySem.Str.ofString "law") (by kernel_rfl : nsIn (Mine.hd.heap_1 w.params) mainGlobals (PySem.Str.ofString "law") = some (some (.ref 200)))
    have h2 := hmg.symm.trans h1
    exact Value.ref.inj (Option.some.inj h2)
  subst hfa
  clear hmg
  clear ho hd hcd hD
  wrow_args hpre hlay hrd hwl hlo
  rename_i ns _ _ _ _ _ _ _ ax vs _ hL _ _ _ hI _ hlen _
  obtain ⟨hvl, hits⟩ := ints_at hI
  have key : ∀ h' tk, (∀ b o, (ghostOf s₁.heap [(159, 155)]).get? b = some o → h'.get? b = some o) → GrownAll [(159, 155)] h' →
      GoodWG PySem.Challenge.rw_xp0010_01.row.claim (classAt s₀.heap) (PySem.ExcName.means s₀.heap) [ofPy (PyData.list (ns.map PyData.int))] s₁ (.ok (.ret (.bool true))) { s₁ with heap := h', toks := tk } := fun h' tk hk hgr =>
    goodWG_true hT9 (fun _ => rfl) (postW_of (by wrow_shape) (by wtm_val) (by str_meet; first | done | w_fin)) hk hgr rfl hg
  refine wpAny_guardT (wpR_call (law_code w _ _ _ mg mb s₁ ax vs _ KX T hT9 hL hits (by omega) key)) (wpAny_pure ?_)
  exact key s₁.heap s₁.toks (fun b o e => of_hideAll _ e) ⟨⟨#[], (hT9 _ (.head _)).2⟩, trivial⟩
end Rd
end Mine
theorem PySem.Challenge.cw_xp0010_01_holds : PySem.Challenge.rw_xp0010_01.Holds :=
  Mine.Rd.final
