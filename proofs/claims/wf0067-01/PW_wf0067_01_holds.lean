import PyProof.Rows.All
import Wide.All
import OpenK.AllK
import Wide.FinOn
import PySem.Challenge.RW_wf0067_01
open PySem PySem.W PyProof.Rows
set_option Elab.async false
set_option maxRecDepth 100000
set_option maxHeartbeats 8000000
set_option compiler.extract_closed false
namespace Mine
section
def vwP : Program := view PySem.Challenge.rw_wf0067_01.row.toRowW.prog [0, 2, 3, 4, 5, 6, 7, 9, 11, 12, 14, 15, 16, 18, 20, 21, 22, 23, 24, 25, 26, 27]
theorem said1 : PySem.Challenge.rw_wf0067_01.wellSaid = true := by
  rw [PySem.W.Fast.te9446332074065402090]
  kernel_rfl
local macro_rules | `(tactic| o_law) => `(tactic| refine holds_law said1 fun said => ?_)
local macro_rules | `(tactic| o_head $H) => `(tactic| (refine holds_open (q := vwP) (loose := [Str.ofString "length_hint", Str.ofString "tspecials", Str.ofString "_name_disallowed_re", Str.ofString "_value_disallowed_re", Str.ofString "_formatparam"]) (Xt := fun s => xlAt vwP [] s && recOk (RowW.records PySem.Challenge.rw_wf0067_01.row.toRowW) s) (XP := XL vwP []) (Yf := Hook.obs $H) (Ya := Hook.val $H) (YP := Hook.says $H) (N := 3196) ?hl (Hook.of $H) (Hook.keeps $H) (fun s e => xl_of s (Bool.and_eq_true_iff.mp e).1) XL.keeps (by rfl) (by rfl) (by rfl) (fun s e => recFacts_of (Bool.and_eq_true_iff.mp e).2) (by rfl) (by assumption) (by decide +kernel) ⟨rfl, rfl, rfl, rfl, rfl, by decide +kernel⟩ ?hw ?hc; (case hl => (intro w; unfold openEnds fencedOpening; delta topFrom; rw [PySem.W.Fast.te10274390034422433532, PySem.W.Fast.te14289696077712309145, PySem.W.Fast.te14082659384304107361, PySem.W.Fast.te4187177175401517315, PySem.W.Fast.te1435165496053646825, PySem.W.Fast.te14364793385576792824, PySem.W.Fast.te5923862056798008813]; kernel_rfl))))
open_top hd for PySem.Challenge.rw_wf0067_01
end
end Mine
open PySem.Calls
namespace Mine


section
open PySem PySem.W PyProof.Rows PySem.Calls PySem.Builtin.Re
theorem resetRe : True := by w_top off; trivial

theorem re_slot : Slot "re.Pattern" "search" "re.Pattern.search" :=
  .of (owner := "re.Pattern") (n := "search") (by rw [typeLookup_type, builtinLookup_eq_fast]; kernel_rfl) (by decide +kernel) (by decide +kernel) (by decide +kernel)
    (by first | exact .inl (by decide +kernel) | exact .inr (by decide +kernel)) (by rw [isSubtype_type]; kernel_rfl)
theorem re_entry : entryFor table "re.Pattern.search" = some Builtin.«re.Pattern.search» := entryFor_of_tree (by kernel_rfl)
theorem re_args (a b : Value) : argsOk "re.Pattern.search" ⟨[a, b], []⟩ := by unfold argsOk; kernel_rfl
theorem re_plain : PlainAttrs "re.Pattern" :=
  ⟨⟨"object.__getattribute__", by rw [typeLookup_type, builtinLookup_eq_fast]; kernel_rfl, by decide +kernel⟩, by rw [typeLookup_type, builtinLookup_eq_fast]; kernel_rfl⟩
theorem re_type : typeOf (.builtin "re.Pattern.search") = pure (.type "method_descriptor") := by show builtinType _ = _; rw [builtinType_eq_fast]; kernel_rfl

/-- the machine, turn by turn -/
noncomputable def drv : Nat → Sre.M → Option Sre.M
  | 0, _ => none
  | n + 1, m => if (m.runFor reTurnSteps).outcome.isSome then some (m.runFor reTurnSteps) else drv n (m.runFor reTurnSteps)

/-- the search of a text, where it ends within 400 turns: found or not -/
@[irreducible] noncomputable def hits (code : Array Nat) (x : Str) : Option Bool :=
  match drv 400 (Sre.forSearch code x.cps 0 0 x.cps.size false) with
  | some m => (match m.outcome with
    | some .failed => some false
    | some .matched => some true
    | _ => none)
  | none => none

section
variable {M : Model} {A : Around} {E : Value → Shared → Prop} {s : Shared}
theorem drive_drv {Q : Sre.M → Shared → Prop} {m' : Sre.M} (hQ : Q m' s) : ∀ (n : Nat) (m : Sre.M) (k : Nat), drv n m = some m' → n ≤ k → wpAny M A (reDrive k m) Q E s := by
  intro n
  induction n with
  | zero => intro m k h; cases h
  | succ n ih =>
    intro m k h hk
    cases k with
    | zero => exact absurd hk (Nat.not_succ_le_zero n)
    | succ k =>
      unfold drv at h
      unfold reDrive
      by_cases hc : (m.runFor reTurnSteps).outcome.isSome = true
      · rw [if_pos hc] at h
        cases h
        simp only [hc, if_true]
        exact wpAny_pure hQ
      · rw [if_neg hc] at h
        simp only [hc]
        exact wpAny_bind (wpAny_rule (ih _ k h (Nat.le_of_succ_le_succ hk)))
theorem wp_rules {f : Nat → Bool} {g : Nat → String} {Q : PUnit → Shared → Prop} : ∀ (l : List Nat), Q PUnit.unit s →
    wpAny M A (forIn l PUnit.unit fun i (_ : PUnit) => if f i = true then (do rule (g i); pure (ForInStep.yield PUnit.unit) : Sem (ForInStep PUnit)) else pure (ForInStep.yield PUnit.unit)) Q E s
  | [], h => by
    simp only [List.forIn_nil]
    exact wpAny_pure h
  | i :: l, h => by
    simp only [List.forIn_cons]
    refine wpAny_bind ?_
    by_cases hc : f i = true
    · simp only [hc, if_true]
      exact wpAny_bind (wpAny_rule (wpAny_pure (wp_rules l h)))
    · simp only [hc]
      exact wpAny_pure (wp_rules l h)
theorem runToEnd_no {Q : Option Sre.M → Shared → Prop} {m m' : Sre.M} (h : drv 400 m = some m') (hm : m'.outcome = some .failed) (hq : Q none s) : wpAny M A (reRunToEnd m) Q E s := by
  unfold reRunToEnd
  refine wpAny_bind (drive_drv ?_ 400 m _ h (by decide))
  simp only [hm]
  exact wpAny_bind (wp_rules (f := fun i => m'.seen.has i) _ (wpAny_pure hq))
theorem runToEnd_yes {Q : Option Sre.M → Shared → Prop} {m m' : Sre.M} (h : drv 400 m = some m') (hm : m'.outcome = some .matched) (hq : Q (some m') s) : wpAny M A (reRunToEnd m) Q E s := by
  unfold reRunToEnd
  refine wpAny_bind (drive_drv ?_ 400 m _ h (by decide))
  simp only [hm]
  exact wpAny_bind (wp_rules (f := fun i => m'.seen.has i) _ (wpAny_pure hq))
theorem asStr_str {x : Str} {t : Tok} {Q : Option Str → Shared → Prop} (h : Q (some x) s) : wpAny M A (asStr? (.str x t)) Q E s := wpAny_pure h

/-- what a pattern's search reads -/
structure PatAt (h : Heap) (p : Addr) (code : Array Nat) : Prop where
  out : ∃ fs sl c its n o, h.get? p = some ⟨.type "re.Pattern", none, .fields fs, sl⟩ ∧ fs.getD 5 .none = .ref c ∧ fs.getD 6 .none = .int 0 0 ∧ fs.getD 2 .none = .int 0 0 ∧
    h.get? c = some o ∧ o.data = .seq its n ∧ (its.map reRawOf).map (·.toNat) = code

theorem target {Q : ReTarget → Shared → Prop} {p : Addr} {code : Array Nat} {x : Str} {t : Tok} (P : PatAt s.heap p code) (hx : x.length ≤ 2 ^ 62)
    (h : Q { pattern := .ref p, string := .str x t, code := code, text := x.cps, kind := 0, groups := 0, pos := 0, lim := x.cps.size } s) :
    wpAny M A (reTarget "re.Pattern.search" "search" ⟨[.ref p, .str x t], []⟩) Q E s := by
  obtain ⟨fs, sl, c, its, n, o, h1, h5, h6, h2, hc, hd, hcode⟩ := P.out
  have e : reNamed "re.Pattern.search" "search" ["string", "pos", "endpos"] 1 [.str x t] [] = pure [some (.str x t), none, none] := by kernel_rfl
  unfold reTarget
  dsimp only
  rw [e]
  refine wpAny_bind (wpAny_pure ?_)
  refine wpAny_bind (wpAny_pure ?_)
  refine wpAny_bind (wpAny_pure ?_)
  refine wpAny_bind (wpAny_fieldsOf h1 rfl ?_)
  refine wpAny_bind (wpAny_pure ?_)
  have z6 : reRawNat (fs.getD 6 .none) = 0 := by rw [h6]; rfl
  have z2 : reRawNat (fs.getD 2 .none) = 0 := by rw [h2]; rfl
  have zl : min (2 ^ 63 - 1 : Int).toNat x.cps.size = x.cps.size := Nat.min_eq_right (Nat.le_trans (show x.cps.size ≤ 2 ^ 62 from hx) (by decide))
  have z0 : min (0 : Int).toNat x.cps.size = 0 := Nat.zero_min _
  rw [z6, z2, h5, zl, z0]
  show wpAny M A (do reNoCollectionInside (.str x t) 0; let l ← reRawItems (.ref c); pure ({ pattern := Value.ref p, string := Value.str x t, code := Array.map (fun x => x.toNat) l, text := x.cps, kind := 0, groups := 0, pos := 0, lim := x.cps.size } : ReTarget)) Q E s
  refine wpAny_bind (wpAny_pure (wpAny_bind (wpAny_bind (wpAny_seqItems hc hd (wpAny_pure (wpAny_pure ?_))))))
  show Q _ s
  simp only [Option.getD_some]
  rw [hcode]
  exact h
end

section
variable {prog : Program} {w : World} {A : Around} {E : Value → Shared → Prop} {s : Shared}
theorem hits_no {code : Array Nat} {x : Str} (h : hits code x = some false) : ∃ m', drv 400 (Sre.forSearch code x.cps 0 0 x.cps.size false) = some m' ∧ m'.outcome = some .failed := by
  unfold hits at h
  split at h
  · rename_i m hm
    refine ⟨m, hm, ?_⟩
    split at h <;> first | assumption | cases h
  · cases h
theorem hits_yes {code : Array Nat} {x : Str} (h : hits code x = some true) : ∃ m', drv 400 (Sre.forSearch code x.cps 0 0 x.cps.size false) = some m' ∧ m'.outcome = some .matched := by
  unfold hits at h
  split at h
  · rename_i m hm
    refine ⟨m, hm, ?_⟩
    split at h <;> first | assumption | cases h
  · cases h
theorem search_no {p : Addr} {code : Array Nat} {x : Str} {t : Tok} {Q : Value → Shared → Prop} (P : PatAt s.heap p code) (hx : x.length ≤ 2 ^ 62) (h : hits code x = some false) (hq : Q .none s) :
    wpAny (model prog w) A (call (.builtin "re.Pattern.search") [.ref p, .str x t]) Q E s := by
  obtain ⟨m', hd, hm⟩ := hits_no h
  have hT : s.TypeIs (.ref p) "re.Pattern" := by
    obtain ⟨fs, sl, c, its, n, o, h1, _⟩ := P.out
    exact ⟨_, h1, rfl⟩
  refine wpAny_call (codeAny_call_builtin re_slot.plain re_entry (re_slot.check _ _ _ _ _ _ _ _ hT (re_args _ _) ?_))
  unfold Builtin.«re.Pattern.search»
  refine wpAny_bind (target P hx ?_)
  unfold reAnswer
  exact wpAny_bind (runToEnd_no hd hm (wpAny_pure hq))
theorem getSearch {M : Model} {p : Addr} {code : Array Nat} {pl : Sem Bool} {Q : Value × List Value → Shared → Prop} (P : PatAt s.heap p code) (h : Q (.builtin "re.Pattern.search", [.ref p]) s) :
    wpAny M A (getMethod (.ref p) "search" pl) Q E s := by
  obtain ⟨fs, sl, c, its, n, o, h1, _⟩ := P.out
  exact getMethod_builtin (show s.TypeIs (.ref p) "re.Pattern" from ⟨_, h1, rfl⟩) re_plain re_slot re_type (fun a e => by cases e; exact ⟨_, h1, rfl⟩) h
theorem match_nobool : typeLookup (.type "re.Match") "__bool__" = pure none := by rw [typeLookup_type, builtinLookup_eq_fast]; kernel_rfl
theorem match_nolen : typeLookup (.type "re.Match") "__len__" = pure none := by rw [typeLookup_type, builtinLookup_eq_fast]; kernel_rfl
theorem match_true {M : Model} {a : Addr} {o : Obj} {Q : Bool → Shared → Prop} (ho : s.heap.get? a = some o) (hc : o.cls = .type "re.Match") (h : Q true s) : wpAny M A (truthy (.ref a)) Q E s := by
  have hT : s.TypeIs (.ref a) "re.Match" := ⟨o, ho, hc⟩
  unfold truthy
  refine wpAny_bind (wpAny_callSpecial?_none hT match_nobool ?_)
  refine wpAny_bind (wpAny_specialOf hT match_nolen ?_)
  exact wpAny_pure h
theorem search_yes {h₀ : Heap} {L : Addr} {m : Str → Option Value} {news : List (Addr × Obj)} {p : Addr} {code : Array Nat} {x : Str} {t : Tok} {Q : Value → Shared → Prop} (P : PatAt s.heap p code) (hx : x.length ≤ 2 ^ 62) (h : hits code x = some true)
    (F : Fr h₀ L s.heap m) (N : News h₀ L s.heap news)
    (hq : ∀ h' a o, Fr h₀ L h' m → News h₀ L h' ((a, o) :: news) → (∀ q ∈ news, q.1 < a) → o.cls = .type "re.Match" → (∀ b ob, s.heap.get? b = some ob → h'.get? b = some ob) → Q (.ref a) { s with heap := h' }) :
    wpAny (model prog w) A (call (.builtin "re.Pattern.search") [.ref p, .str x t]) Q E s := by
  obtain ⟨m', hd, hm⟩ := hits_yes h
  have hT : s.TypeIs (.ref p) "re.Pattern" := by
    obtain ⟨fs, sl, c, its, n, o, h1, _⟩ := P.out
    exact ⟨_, h1, rfl⟩
  refine wpAny_call (codeAny_call_builtin re_slot.plain re_entry (re_slot.check _ _ _ _ _ _ _ _ hT (re_args _ _) ?_))
  unfold Builtin.«re.Pattern.search»
  refine wpAny_bind (target P hx ?_)
  unfold reAnswer
  refine wpAny_bind (runToEnd_yes hd hm ?_)
  refine wpAny_bind ?_
  show wpAny _ _ (do let tup ← newTuple [rawInt m'.start, rawInt m'.handed]; newFields "re.Match" [.str x t, .ref p, rawInt (0 : Nat), rawInt (x.cps.size : Nat), rawInt m'.lastindex, tup]) _ _ _
  refine wpAny_bind (wpAny_newObj_type ?_ (by show (2:Nat) ≤ sizeLine; decide))
  refine wpAny_newObj_type (wpAny_pure ?_) (by show (6:Nat) ≤ sizeLine + 2; decide)
  have N1 := News.push F N ({ cls := .type "tuple", data := .seq [rawInt m'.start, rawInt m'.handed].toArray } : Obj)
  have F1 := F.push ({ cls := .type "tuple", data := .seq [rawInt m'.start, rawInt m'.handed].toArray } : Obj)
  have N2 := News.push F1 N1 ({ cls := .type "re.Match", data := .fields [.str x t, .ref p, rawInt ((0 : Nat) : Int), rawInt ((x.cps.size : Nat) : Int), rawInt m'.lastindex, .ref s.heap.objs.size].toArray } : Obj)
  refine hq _ _ ({ cls := .type "re.Match", data := .fields [.str x t, .ref p, rawInt ((0 : Nat) : Int), rawInt ((x.cps.size : Nat) : Int), rawInt m'.lastindex, .ref s.heap.objs.size].toArray } : Obj) (F1.push _) (fun q hq' => N2 q ?_) (fun q hq' => Heap.lt_size (N1 q (List.mem_cons_of_mem _ hq')).1) rfl fun b ob e => Heap.get?_push_of_some _ (Heap.get?_push_of_some _ e)
  rcases List.mem_cons.mp hq' with e | hm'
  · rw [e]; exact List.mem_cons_self
  · exact List.mem_cons_of_mem _ (List.mem_cons_of_mem _ hm')
end
end

section
theorem resetComp : True := by w_top off; trivial

theorem Paired.flt {α β : Type} {P : α → β → Prop} (p : α → Bool) (q : β → Bool) (h : ∀ a b, P a b → p a = q b) : ∀ {l₁ : List α} {l₂ : List β}, PySem.Paired P l₁ l₂ → PySem.Paired P (l₁.filter p) (l₂.filter q)
  | _, _, .nil => .nil
  | _, _, .cons (a := a) (b := b) x r => by
    have e := h a b x
    cases hb : q b with
    | true => rw [List.filter_cons, List.filter_cons, e, hb]; exact .cons x (Paired.flt p q h r)
    | false => rw [List.filter_cons, List.filter_cons, e, hb]; exact Paired.flt p q h r
theorem Paired.at {α β : Type} {P : α → β → Prop} : ∀ {l₁ : List α} {l₂ : List β} {i : Nat} {a : α}, PySem.Paired P l₁ l₂ → l₁[i]? = some a → ∃ b, l₂[i]? = some b ∧ P a b
  | _, _, i, a, .nil, h => by simp at h
  | _, _, 0, a, .cons (b := b) x _, h => ⟨b, rfl, by simp at h; subst h; exact x⟩
  | _, _, i + 1, a, .cons _ r, h => by
    obtain ⟨b, e, x⟩ := Paired.at (i := i) r (by simpa using h)
    exact ⟨b, by simpa using e, x⟩

theorem ne_2 (n : Nat) : n ≠ n + 2 := by omega
theorem ne_12 (n : Nat) : n + 1 ≠ n + 2 := by omega
theorem ne_01 (n : Nat) : n ≠ n + 1 := by omega
theorem lt_ne_2 {b n : Nat} (h : b < n) : b ≠ n + 2 := by omega
abbrev iterOf (l : Addr) (i : Nat) (x : Obj) : Prop := x.cls = .type "list_iterator" ∧ x.data = .fields #[.ref l, .int i 0]
abbrev plainL (ys : List Value) (n : Nat) : Obj := { cls := .type "list", data := .seq ys.toArray n }

section
variable {prog : Program} {w : World} {A : Around} {E : Value → Shared → Prop} {s : Shared} {env : Env}

/-- what a turn's test or element hands on: the frame, the ledger, and what is new on it -/
def Hand {α : Type} (h₀ : Heap) (C : Addr) (m : Str → Option Value) (led : List (Addr × Obj)) (s : Shared) (post : α → List (Addr × Obj) → Prop) (y : α) (s' : Shared) : Prop :=
  ∃ h' tk new, s' = { s with heap := h', toks := tk } ∧ Fr h₀ C h' m ∧ News h₀ C h' (new ++ led) ∧ (∀ q ∈ new, ∀ p ∈ led, q.1 ≠ p.1) ∧ post y new

theorem compLoopG {α : Type} {elt iter : Expr} {x : Str} {px : Pos} {ifs : List Expr} {scope : Scope} {pos : Pos} {I ax D C : Addr} {cenv : Env} {h₀ : Heap} {vs : List Value} {its : List α} {R : Result → Shared → Prop} {m : Str → Option Value} {oI : Obj}
    (P : Value → α → Prop) (p : α → Bool) (G : List (Addr × Obj) → Value → α → Prop) (hG : ∀ l l' y a, (∀ q ∈ l, q ∈ l') → G l y a → G l' y a)
    (hh : A.handled = none) (hC : cenv.locals = C) (hx : cenv.kindOf x = some .local) (hp : (cenv.scope.kind == .class || (cenv.scope.kind == .module && cenv.locals != cenv.globals)) = false)
    (hl : h₀.IsList ax vs.toArray) (hP : PySem.Paired P vs its) (hsz : vs.length ≤ sizeLine) (hIC : I ≠ C) (hDC : D ≠ C) (hID : I ≠ D)
    (F : Fr h₀ C s.heap m) (N : News h₀ C s.heap [(I, oI), (D, plainL [] 0)]) (hI : iterOf ax 0 oI)
    (test : ∀ v a h tk m' oI oD tl (E' : Value → Shared → Prop), P v a → Fr h₀ C h m' → m' x = some v → News h₀ C h ((I, oI) :: (D, oD) :: tl) →
      wpAny (model prog w) A (forIn ifs true fun c r => if r = true then do let ok ← isTrue c cenv (eval c cenv); pure (ForInStep.yield ok) else pure (ForInStep.yield r))
        (Hand h₀ C m' ((I, oI) :: (D, oD) :: tl) { s with heap := h, toks := tk } (fun ok _ => ok = p a)) E' { s with heap := h, toks := tk })
    (elt_ : ∀ v a h tk m' oI oD tl (E' : Value → Shared → Prop), P v a → p a = true → Fr h₀ C h m' → m' x = some v → News h₀ C h ((I, oI) :: (D, oD) :: tl) →
      wpAny (model prog w) A (eval elt cenv) (Hand h₀ C m' ((I, oI) :: (D, oD) :: tl) { s with heap := h, toks := tk } (fun y new => G new y a)) E' { s with heap := h, toks := tk })
    (hR : ∀ h' tk m' ys n tl, Fr h₀ C h' m' → News h₀ C h' ((D, plainL ys n) :: tl) → (∀ q ∈ tl, q.1 ≠ D) → PySem.Paired (G tl) ys (its.filter p) → R (.ok .next) { s with heap := h', toks := tk }) :
    codeAny (model prog w) A (.compLoop (.ListComp elt [⟨.Name x px, iter, ifs, 0⟩] scope pos) 0 (.ref I) (.ref D) cenv) R s := by
  have hlen := hP.length
  refine codeAny_compLoop_tests
    (fun k s' => ∃ h' tk m' ys n i oI tl, s' = { s with heap := h', toks := tk } ∧ i ≤ vs.length ∧ k = vs.length + 1 - i ∧ Fr h₀ C h' m' ∧ News h₀ C h' ((I, oI) :: (D, plainL ys n) :: tl) ∧ iterOf ax i oI ∧ (∀ q ∈ tl, q.1 ≠ I ∧ q.1 ≠ D) ∧
      PySem.Paired (G tl) ys ((its.take i).filter p)) ?_ (vs.length + 1)
    ⟨s.heap, s.toks, m, [], 0, 0, oI, [], rfl, Nat.zero_le _, rfl, F, N, hI, fun _ hq => (nomatch hq), .nil⟩
  rintro k s' ⟨H, tk, m', ys, n, i, oI', tl, rfl, hi, rfl, F1, N1, hI1, hoff, hys⟩
  have nI := N1 _ (List.Mem.head _)
  have nD := N1 _ (List.Mem.tail _ (List.Mem.head _))
  have iI : H.IsListIter I ax i := ⟨oI', nI.1, hI1.1, hI1.2⟩
  have iL : H.IsList ax vs.toArray := hl.at fun o e => F1.keep _ _ e
  by_cases hlt : i < vs.length
  · have hv : vs[i]? = some vs[i] := List.getElem?_eq_getElem hlt
    obtain ⟨a, ha, hPa⟩ := Paired.at hP hv
    refine wpAny_pyNext_list_item iI iL (x := vs[i]) (by simpa using hv) fun h₁ hit₁ hs₁ => ?_
    obtain ⟨oI₁, ho₁, hc₁, hd₁⟩ := hit₁
    have F2 : Fr h₀ C h₁ m' := F1.change hs₁ hIC nI.2.2
    have N2 : News h₀ C h₁ ((I, oI₁) :: (D, plainL ys n) :: tl) := by
      refine News.setAt (own := []) N1 (fun _ h => nomatch h) (fun q hq => ?_) hs₁ ho₁
      rcases List.mem_cons.mp hq with rfl | hq
      · exact Ne.symm hID
      · exact (hoff q hq).1
    refine wpAny_assign_Name (wpAny_storeName_local hx (hC ▸ F2.ns) (fun h₂ hn₂ hs₂ => ?_) hp)
    rw [hC] at hn₂ hs₂
    have F3 : Fr h₀ C h₂ (fun y => if y = x then some vs[i] else m' y) := F2.set hn₂ hs₂
    have N3 := N2.set hs₂
    refine wpAny_mono (test _ a _ _ _ _ _ _ _ hPa F3 (by simp) N3) (fun ok s₃ h₃ => ?_) fun _ _ e => e
    obtain ⟨h₃, tk₃, new₃, rfl, F4, N4, hoff4, rfl⟩ := h₃
    have N4' : News h₀ C h₃ ((I, oI₁) :: (D, plainL ys n) :: tl) := fun q hq => N4 q (List.mem_append_right _ hq)
    have htake := take_succ_filter p its i a ha
    cases hpa : p a with
    | false =>
      simp only [Bool.false_eq_true, if_false]
      refine ⟨vs.length + 1 - (i + 1), by omega, h₃, tk₃, _, ys, n, i + 1, oI₁, tl, rfl, hlt, rfl, F4, N4', ⟨hc₁, hd₁⟩, hoff, ?_⟩
      rw [htake, hpa]
      simpa using hys
    | true =>
      simp only [if_true]
      refine wpAny_mono (elt_ _ a h₃ tk₃ _ _ _ _ _ hPa hpa F4 (by simp) N4') (fun y s₄ h₄ => ?_) fun _ _ e => e
      obtain ⟨h₄, tk₄, new₄, rfl, F5, N5, hoff5, hG5⟩ := h₄
      have nD5 := N5 (D, plainL ys n) (List.mem_append_right _ (List.Mem.tail _ (List.Mem.head _)))
      have hyl : ys.length ≤ sizeLine := by
        have e1 := hys.length
        have e2 : ((its.take i).filter p).length ≤ (its.take i).length := List.length_filter_le _ _
        have e3 : (its.take i).length ≤ i := by rw [List.length_take]; exact Nat.min_le_left _ _
        omega
      refine wpAny_list_append_plain (hsz := by simpa using hyl) (items := ys.toArray) ⟨n, nD5.1⟩ fun h₅ hl₅ hs₅ => ?_
      obtain ⟨n₅, hn₅⟩ := hl₅
      have N6 : News h₀ C h₅ ((new₄ ++ [(I, oI₁)]) ++ (D, plainL (ys ++ [y]) n₅) :: tl) := by
        refine News.setAt (o := plainL ys n) ?_ (fun q hq => ?_) (fun q hq => (hoff q hq).2) hs₅ (by rw [hn₅]; simp [plainL])
        · intro q hq
          exact N5 q (by simpa [List.append_assoc] using hq)
        · rcases List.mem_append.mp hq with hq | hq
          · exact hoff5 q hq (D, plainL ys n) (List.Mem.tail _ (List.Mem.head _))
          · rw [List.mem_singleton.mp hq]; exact hID
      refine ⟨vs.length + 1 - (i + 1), by omega, h₅, tk₄, _, ys ++ [y], n₅, i + 1, oI₁, new₄ ++ tl, rfl, hlt, rfl, F5.change hs₅ hDC nD5.2.2, ?_, ⟨hc₁, hd₁⟩, ?_, ?_⟩
      · intro q hq
        refine N6 q ?_
        simp only [List.mem_cons, List.mem_append, List.append_assoc, List.singleton_append] at hq ⊢
        rcases hq with h | h | h | h
        · exact .inr (.inl h)
        · exact .inr (.inr (.inl h))
        · exact .inl h
        · exact .inr (.inr (.inr h))
      · intro q hq
        rcases List.mem_append.mp hq with hq | hq
        · exact ⟨hoff5 q hq (I, oI₁) (List.Mem.head _), hoff5 q hq (D, plainL ys n) (List.Mem.tail _ (List.Mem.head _))⟩
        · exact hoff q hq
      · rw [htake, hpa]
        exact Paired.snoc (PySem.Paired.mono (fun y a g => hG _ _ y a (fun q hq => List.mem_append_right _ hq) g) hys) (hG _ _ _ _ (fun q hq => List.mem_append_left _ hq) hG5)
  · have hin : i = vs.length := by omega
    refine wpAny_pyNext_list_end hh iI iL (by simp [hin]) fun h₁ hk₁ => ?_
    have F2 : Fr h₀ C h₁ m' := ⟨F1.ns.at' fun o e => hk₁ _ o (Ne.symm hIC) e, fun b o e => hk₁ b o (fun q => by rw [q, nI.2.2] at e; cases e) (F1.keep b o e), F1.above⟩
    refine hR h₁ tk m' ys n tl F2 (fun q hq => ?_) (fun q hq => (hoff q hq).2) ?_
    · have hqI : q.1 ≠ I := by
        rcases List.mem_cons.mp hq with rfl | hq
        · exact Ne.symm hID
        · exact (hoff q hq).1
      have hN := N1 q (List.Mem.tail _ hq)
      exact ⟨hk₁ _ _ hqI hN.1, hN.2⟩
    · rw [hin, hlen, List.take_length] at hys
      exact hys

/-- the block of a comprehension over a list, from the list's evaluation on -/
theorem compBlockG {α : Type} {elt iter : Expr} {x : Str} {px : Pos} {ifs : List Expr} {scope : Scope} {cl : List (Str × Addr)} {pos : Pos} {s₁ : Shared} {ax : Addr} {vs : List Value} {its : List α} {RR : Value → Addr → Result → Shared → Prop}
    (P : Value → α → Prop) (p : α → Bool) (G : List (Addr × Obj) → Value → α → Prop) (hG : ∀ l l' y a, (∀ q ∈ l, q ∈ l') → G l y a → G l' y a)
    (hh : A.handled = none) (hcell : ∀ y ∈ scope.names, y.2 ≠ .cell) (hkind : scope.kind = .function) (hx : scope.names.lookup x = some .local)
    (hl : s₁.heap.IsList ax vs.toArray) (hP : PySem.Paired P vs its) (hsz : vs.length ≤ sizeLine)
    (test : ∀ C v a h tk m' l0 (E' : Value → Shared → Prop), s₁.heap.objs.size ≤ C → P v a → Fr s₁.heap C h m' → m' x = some v → News s₁.heap C h l0 →
      wpAny (model prog w) A (forIn ifs true fun c r => if r = true then do let ok ← isTrue c (compEnvC scope cl C env) (eval c (compEnvC scope cl C env)); pure (ForInStep.yield ok) else pure (ForInStep.yield r))
        (Hand s₁.heap C m' l0 { s₁ with heap := h, toks := tk } (fun ok _ => ok = p a)) E' { s₁ with heap := h, toks := tk })
    (elt_ : ∀ C v a h tk m' l0 (E' : Value → Shared → Prop), s₁.heap.objs.size ≤ C → P v a → p a = true → Fr s₁.heap C h m' → m' x = some v → News s₁.heap C h l0 →
      wpAny (model prog w) A (eval elt (compEnvC scope cl C env)) (Hand s₁.heap C m' l0 { s₁ with heap := h, toks := tk } (fun y new => G new y a)) E' { s₁ with heap := h, toks := tk })
    (hRR : ∀ D C h' tk m' ys n tl, s₁.heap.get? D = none → s₁.heap.get? C = none → D ≠ C → h'.Ns C m' → h'.get? D = some (plainL ys n) → (∀ b o, s₁.heap.get? b = some o → h'.get? b = some o) →
      (∀ q ∈ tl, h'.get? q.1 = some q.2 ∧ s₁.heap.get? q.1 = none ∧ q.1 ≠ D ∧ q.1 ≠ C) → PySem.Paired (G tl) ys (its.filter p) → RR (.ref D) C (.ok .next) { s₁ with heap := h', toks := tk }) :
    wpAny (model prog w) A (pyIter (.ref ax)) (fun it s₂ => wpAny (model prog w) A (newList []) (fun acc s₃ => wpAny (model prog w) A (newFunctionEnv scope env.globals cl [] env.qual none .none (some env)) (fun cenv s₄ =>
      codeAny (model prog w) A (.compStart (.ListComp elt [⟨.Name x px, iter, ifs, 0⟩] scope pos) 0 it acc { cenv with scope := relabel scope env }) (RR acc cenv.locals) s₄) E s₃) E s₂) E s₁ := by
  refine wpAny_pyIter_list hl ?_
  refine wpAny_newObj_type (wpAny_newFunctionEnv hcell (by intro y hy; simp at hy) (fun h₁ hns₁ hsb₁ => ?_) hkind)
  dsimp only at hns₁ hsb₁ ⊢
  have fresh : ∀ a, s₁.heap.objs.size ≤ a → s₁.heap.get? a = none := fun a ha => by
    cases e : s₁.heap.get? a with
    | none => rfl
    | some o' => exact absurd (Heap.lt_size e) (Nat.not_lt.mpr ha)
  generalize hH1 : s₁.heap.push { cls := .type "list_iterator", data := .fields #[.ref ax, .int 0 0] } = H1 at hns₁ hsb₁ ⊢
  have z1 : H1.objs.size = s₁.heap.objs.size + 1 := by rw [← hH1, Heap.size_push]
  generalize hH2 : H1.push { cls := .type "list", dict := none, data := .seq ([] : List Value).toArray } = H2 at hns₁ hsb₁ ⊢
  have z2 : H2.objs.size = s₁.heap.objs.size + 2 := by rw [← hH2, Heap.size_push, z1]
  rw [z2] at hns₁ hsb₁ ⊢
  rw [z1]
  have keep0 : ∀ b o, s₁.heap.get? b = some o → h₁.get? b = some o := fun b o e => by
    have hb := Heap.lt_size e
    exact hsb₁.extBut _ _ (lt_ne_2 hb) (Heap.get?_push_of_some _ (hH2 ▸ Heap.get?_push_of_some _ (hH1 ▸ Heap.get?_push_of_some _ e)))
  have gI : h₁.get? s₁.heap.objs.size = some { cls := .type "list_iterator", data := .fields #[.ref ax, .int 0 0] } := by
    exact hsb₁.extBut _ _ (ne_2 _) (Heap.get?_push_of_some _ (hH2 ▸ Heap.get?_push_of_some _ (hH1 ▸ Heap.get?_push_size _ rfl)))
  have gD : h₁.get? (s₁.heap.objs.size + 1) = some (plainL [] 0) := by
    refine hsb₁.extBut _ _ (ne_12 _) (Heap.get?_push_of_some _ ?_)
    rw [← hH2, ← z1]
    exact Heap.get?_push_size _ rfl
  have F1 : Fr s₁.heap (s₁.heap.objs.size + 2) h₁ _ := ⟨hns₁, keep0, by omega⟩
  have N1 : News s₁.heap (s₁.heap.objs.size + 2) h₁ [(s₁.heap.objs.size, ({ cls := .type "list_iterator", data := .fields #[.ref ax, .int 0 0] } : Obj)), (s₁.heap.objs.size + 1, plainL [] 0)] := by
    intro q hq
    rcases List.mem_cons.mp hq with rfl | hq
    · exact ⟨gI, ne_2 _, fresh _ (Nat.le_refl _)⟩
    · rw [List.mem_singleton.mp hq]
      exact ⟨gD, ne_12 _, fresh _ (Nat.le_succ _)⟩
  have loop : ∀ s₃ : Shared, s₃ = { s₁ with heap := h₁, toks := s₁.toks + ([] : List (Str × Value)).length } →
      codeAny (model prog w) A (.compLoop (.ListComp elt [⟨.Name x px, iter, ifs, 0⟩] scope pos) 0 (.ref s₁.heap.objs.size) (.ref (s₁.heap.objs.size + 1)) (compEnvC scope cl (s₁.heap.objs.size + 2) env))
        (RR (.ref (s₁.heap.objs.size + 1)) (s₁.heap.objs.size + 2)) s₃ := by
    rintro s₃ rfl
    refine compLoopG (cenv := compEnvC scope cl (s₁.heap.objs.size + 2) env) P p G hG hh rfl (lookup_relabel_local hx) (by simp [compEnvC, relabel, hkind]) hl hP hsz (ne_2 _) (ne_12 _) (ne_01 _)
      F1 N1 ⟨rfl, rfl⟩ (fun v a h tk m' oI oD tl E' hv hF hm hN => test _ v a h tk m' _ E' (Nat.le_add_right _ 2) hv hF hm hN) (fun v a h tk m' oI oD tl E' hv hpa hF hm hN => elt_ _ v a h tk m' _ E' (Nat.le_add_right _ 2) hv hpa hF hm hN) fun h' tk m' ys n tl F' N' off hys => ?_
    have nD := N' _ (List.Mem.head _)
    refine hRR _ _ h' tk m' ys n tl (fresh _ (Nat.le_succ _)) (fresh _ (by omega)) (ne_12 _) F'.ns nD.1 (fun b o e => F'.keep b o e) (fun q hq => ?_) hys
    have nq := N' q (List.Mem.tail _ hq)
    exact ⟨nq.1, nq.2.2, off q hq, nq.2.1⟩
  have hit : h₁.IsListIter s₁.heap.objs.size ax 0 := ⟨_, gI, rfl, rfl⟩
  exact codeAny_compStart_list (loop _ rfl) (wpAny_pyIter_listiter hit (loop _ rfl))

theorem evalCompG {α : Type} {elt iter : Expr} {x : Str} {px : Pos} {ifs : List Expr} {scope : Scope} {cl : List (Str × Addr)} {pos : Pos} {Q : Value → Shared → Prop}
    (P : Value → α → Prop) (p : α → Bool) (G : List (Addr × Obj) → Value → α → Prop) (hG : ∀ l l' y a, (∀ q ∈ l, q ∈ l') → G l y a → G l' y a)
    (hh : A.handled = none) (hclos : closureFor scope env = pure cl) (hcell : ∀ y ∈ scope.names, y.2 ≠ .cell) (hkind : scope.kind = .function)
    (hnames : ∀ y ∈ scope.names, y.2 = .local → scope.names.lookup y.1 = some .local) (hx : scope.names.lookup x = some .local)
    (h : wpAny (model prog w) A (eval iter env) (fun xv s₁ => ∃ ax vs its, xv = .ref ax ∧ s₁.heap.IsList ax vs.toArray ∧ PySem.Paired P vs its ∧ vs.length ≤ sizeLine ∧
      (∀ C v a h tk m' l0 (E' : Value → Shared → Prop), s₁.heap.objs.size ≤ C → P v a → Fr s₁.heap C h m' → m' x = some v → News s₁.heap C h l0 →
        wpAny (model prog w) A (forIn ifs true fun c r => if r = true then do let ok ← isTrue c (compEnvC scope cl C env) (eval c (compEnvC scope cl C env)); pure (ForInStep.yield ok) else pure (ForInStep.yield r))
          (Hand s₁.heap C m' l0 { s₁ with heap := h, toks := tk } (fun ok _ => ok = p a)) E' { s₁ with heap := h, toks := tk }) ∧
      (∀ C v a h tk m' l0 (E' : Value → Shared → Prop), s₁.heap.objs.size ≤ C → P v a → p a = true → Fr s₁.heap C h m' → m' x = some v → News s₁.heap C h l0 →
        wpAny (model prog w) A (eval elt (compEnvC scope cl C env)) (Hand s₁.heap C m' l0 { s₁ with heap := h, toks := tk } (fun y new => G new y a)) E' { s₁ with heap := h, toks := tk }) ∧
      (∀ D h' tk ys n tl, s₁.heap.get? D = none → h'.get? D = some (plainL ys n) → (∀ b o, s₁.heap.get? b = some o → h'.get? b = some o) →
        (∀ q ∈ tl, h'.get? q.1 = some q.2 ∧ s₁.heap.get? q.1 = none ∧ q.1 ≠ D) → PySem.Paired (G tl) ys (its.filter p) → Q (.ref D) { s₁ with heap := h', toks := tk })) E s)
    (hs : ∀ x, foldedSetIterable iter env x = pure x := by intro _; rfl) :
    wpAny (model prog w) A (eval (.ListComp elt [⟨.Name x px, iter, ifs, 0⟩] scope pos) env) Q E s := by
  rw [eval_ListComp]
  refine wpAny_comprehension_free (use := none) rfl hs hclos hkind hnames (wpAny_mono h (fun xv s₁ h₁ => ?_) fun _ _ e => e)
  obtain ⟨ax, vs, its, rfl, hl, hP, hsz, ht, he, hQ⟩ := h₁
  refine compBlockG (RR := fun acc C => compPost (model prog w) A E none Q acc C) P p G hG hh hcell hkind hx hl hP hsz ht he ?_
  intro D C h' tk m' ys n tl hD hC hDC hn hl' hk htl hys
  exact ⟨m', hn, fun h'' hs'' => hQ D h'' tk ys n tl hD (hs''.extBut _ _ hDC hl') (fun b o e => hs''.extBut b o (fun q => by have q' : b = C := q; rw [q', hC] at e; cases e) (hk b o e)) (fun q hq => ⟨hs''.extBut _ _ (htl q hq).2.2.2 (htl q hq).1, (htl q hq).2.1, (htl q hq).2.2.1⟩) hys⟩

theorem assignCompG {α : Type} {elt iter : Expr} {x y : Str} {px py : Pos} {ifs : List Expr} {scope : Scope} {cl : List (Str × Addr)} {pos spos : Pos} {Q : Flow → Shared → Prop}
    (P : Value → α → Prop) (p : α → Bool) (G : List (Addr × Obj) → Value → α → Prop) (hG : ∀ l l' y a, (∀ q ∈ l, q ∈ l') → G l y a → G l' y a)
    (hh : A.handled = none) (hsw : swapsWith (.ListComp elt [⟨.Name x px, iter, ifs, 0⟩] scope pos) (some (.Name y py)) spos.line env = pure true)
    (hclos : closureFor scope env = pure cl) (hcell : ∀ y ∈ scope.names, y.2 ≠ .cell) (hkind : scope.kind = .function)
    (hnames : ∀ y ∈ scope.names, y.2 = .local → scope.names.lookup y.1 = some .local) (hx : scope.names.lookup x = some .local)
    (hy : env.kindOf y = some .local) (hp : (env.scope.kind == .class || (env.scope.kind == .module && env.locals != env.globals)) = false)
    (h : wpAny (model prog w) A (eval iter env) (fun xv s₁ => ∃ ax vs its m, xv = .ref ax ∧ s₁.heap.IsList ax vs.toArray ∧ PySem.Paired P vs its ∧ vs.length ≤ sizeLine ∧ s₁.heap.Ns env.locals m ∧
      (∀ C v a h tk m' l0 (E' : Value → Shared → Prop), s₁.heap.objs.size ≤ C → P v a → Fr s₁.heap C h m' → m' x = some v → News s₁.heap C h l0 →
        wpAny (model prog w) A (forIn ifs true fun c r => if r = true then do let ok ← isTrue c (compEnvC scope cl C env) (eval c (compEnvC scope cl C env)); pure (ForInStep.yield ok) else pure (ForInStep.yield r))
          (Hand s₁.heap C m' l0 { s₁ with heap := h, toks := tk } (fun ok _ => ok = p a)) E' { s₁ with heap := h, toks := tk }) ∧
      (∀ C v a h tk m' l0 (E' : Value → Shared → Prop), s₁.heap.objs.size ≤ C → P v a → p a = true → Fr s₁.heap C h m' → m' x = some v → News s₁.heap C h l0 →
        wpAny (model prog w) A (eval elt (compEnvC scope cl C env)) (Hand s₁.heap C m' l0 { s₁ with heap := h, toks := tk } (fun y new => G new y a)) E' { s₁ with heap := h, toks := tk }) ∧
      (∀ D h' tk ys n tl, s₁.heap.get? D = none → h'.get? D = some (plainL ys n) → h'.Ns env.locals (fun z => if z = y then some (.ref D) else m z) → (∀ b o, b ≠ env.locals → s₁.heap.get? b = some o → h'.get? b = some o) →
        (∀ q ∈ tl, h'.get? q.1 = some q.2 ∧ s₁.heap.get? q.1 = none ∧ q.1 ≠ D) → PySem.Paired (G tl) ys (its.filter p) → Q .next { s₁ with heap := h', toks := tk })) E s)
    (hs : ∀ x, foldedSetIterable iter env x = pure x := by intro _; rfl) :
    wpAny (model prog w) A (exec (.Assign [.Name y py] (.ListComp elt [⟨.Name x px, iter, ifs, 0⟩] scope pos) spos) env) Q E s := by
  rw [exec_Assign_Name_used _ _ _ _ hsw]
  refine wpAny_bind (wpAny_standAt (wpAny_bind ?_))
  show wpAny _ A (do let _ ← comprehension (.ListComp elt [⟨.Name x px, iter, ifs, 0⟩] scope pos) scope env _ (newList []) false (eval iter env) (some (assign (.Name y py) env))) _ _ s
  refine wpAny_bind (wpAny_mono (wpAny_comprehension_free (use := some (assign (.Name y py) env)) (Q := fun _ s' => Q .next s') rfl hs hclos hkind hnames
    (wpAny_mono h (fun xv s₁ h₁ => ?_) fun _ _ e => e)) (fun _ s' hq => wpAny_pure (wpAny_pure hq)) fun _ _ e => e)
  obtain ⟨ax, vs, its, m, rfl, hl, hP, hsz, hn₁, ht, he, hQ⟩ := h₁
  refine compBlockG (RR := fun acc C => compPost (model prog w) A E (some (assign (.Name y py) env)) (fun _ s' => Q .next s') acc C) P p G hG hh hcell hkind hx hl hP hsz ht he ?_
  intro D C h' tk m' ys n tl hD hC hDC hn hl' hk htl hys
  have hLn : ∀ b, s₁.heap.get? b = none → env.locals ≠ b := fun b hb q => by
    obtain ⟨o, _, _, ho, _⟩ := hn₁
    rw [q, hb] at ho; cases ho
  show wpAny _ A (assign (.Name y py) env (.ref D)) _ _ _
  refine wpAny_assign_Name (wpAny_storeName_local hy (hn₁.keeps hk) (fun h₂ hn₂ hs₂ => ?_) hp)
  refine ⟨m', hn.at' fun o e => hs₂.extBut _ _ (Ne.symm (hLn C hC)) e, fun h'' hs'' => ?_⟩
  refine hQ D h'' _ ys n tl hD (hs''.extBut _ _ hDC (hs₂.extBut _ _ (Ne.symm (hLn D hD)) hl')) (hn₂.at' fun o e => hs''.extBut _ _ (hLn C hC) e) (fun b o hb e => hs''.extBut b o (fun q => by have q' : b = C := q; rw [q', hC] at e; cases e) (hs₂.extBut b o hb (hk b o e)))
    (fun q hq => ⟨hs''.extBut _ _ (htl q hq).2.2.2 (hs₂.extBut _ _ (Ne.symm (hLn _ (htl q hq).2.1)) (htl q hq).1), (htl q hq).2.1, (htl q hq).2.2.1⟩) hys
end
end

section
theorem resetListR : True := by w_top off; trivial
section
variable {prog : Program} {w : World} {A : Around} {E : Value → Shared → Prop} {s : Shared} {h₀ : Heap} {L : Addr} {m : Str → Option Value} {news : List (Addr × Obj)} {g : Obj → List (Addr × Obj)} {r : Addr} {xs : Array Value} {n : Nat}

theorem mapSeq_listOf (f : Array Value → Array Value) : ∃ n', Obj.mapSeq f (listOf xs n) = listOf (f xs) n' := ⟨_, rfl⟩

/-- a ledger's list is turned -/
theorem upd_K {f : Array Value → Array Value} {Q : Unit → Shared → Prop} (F : Fr h₀ L s.heap m) (N : News h₀ L s.heap news) (U : UpdF r (listOf xs n) news g)
    (h : ∀ h' n', Fr h₀ L h' m → News h₀ L h' (g (listOf (f xs) n')) → Q () { s with heap := h' }) (hsz : xs.size ≤ sizeLine) (hsz2 : (f xs).size ≤ sizeLine + 1) :
    wpAny (model prog w) A (Builtin.List.listUpdate (.ref r) f) Q E s := by
  obtain ⟨pre, post, rfl, hg, h1, h2⟩ := U.split
  have z := N (r, listOf xs n) (List.mem_append_right _ (.head _))
  obtain ⟨n', hn'⟩ := mapSeq_listOf (xs := xs) (n := n) f
  refine listUpdate_at z.1 rfl (h _ n' ?_ ?_) hsz hsz2
  · exact F.change (Heap.SameBut.update ..) z.2.1 z.2.2
  · rw [hg]
    exact News.setAt N h1 h2 (Heap.SameBut.update ..) (hn' ▸ Heap.get?_update_self _ z.1 (by rw [hn']; rfl))

/-- r[:] = D -/
theorem setAll_K {sl D : Addr} {ys : Array Value} {Q : Unit → Shared → Prop} (F : Fr h₀ L s.heap m) (N : News h₀ L s.heap news) (U : UpdF r (listOf xs n) news g) (hs : s.heap.IsSliceOf sl .none .none .none) (hD : s.heap.IsList D ys) (hne : r ≠ D)
    (hx : xs.size ≤ 1000) (hy : ys.size ≤ 1000) (h : ∀ h' n', Fr h₀ L h' m → News h₀ L h' (g (listOf ys n')) → Q () { s with heap := h' }) :
    wpAny (model prog w) A (setItem (.ref r) (.ref sl) (.ref D)) Q E s := by
  obtain ⟨pre, post, hnews, hg, h1, h2⟩ := U.split
  have z := N (r, listOf xs n) (by rw [hnews]; exact List.mem_append_right _ (.head _))
  have hl : s.heap.IsList r xs := ⟨_, z.1, rfl, n, rfl⟩
  obtain ⟨os, hos, hcs, hds⟩ := id hs
  obtain ⟨oD, hoD, hcD, nD, hdD⟩ := id hD
  have hTs : s.TypeIs (.ref sl) "slice" := ⟨os, hos, hcs⟩
  unfold setItem
  refine wpAny_holding ?_
  refine wpAny_bind (wpAny_sequenceKey hl.typeIs (by decide) ?_)
  refine wpAny_bind (wpAny_callSpecial?_slot (name := Str.ofString "__setitem__") hl.typeIs slot_list_setitem
    (wpAny_call_entry slot_list_setitem hl.typeIs entry_list_setitem ?_ (args_list_setitem _ _ _)))
  show wpAny _ _ (Builtin.List.listSubscript? (.ref sl) >>= _) _ _ s
  refine wpAny_bind ?_
  unfold Builtin.List.listSubscript?
  refine wpAny_bind (wpAny_specialOf hTs slice_no_index ?_)
  simp only [Option.isNone_none, if_true]
  refine wpAny_pure ?_
  show wpAny _ _ (typeOf (.ref sl) >>= _) _ _ s
  refine wpAny_bind (wpAny_typeOf hTs ?_)
  rw [if_neg (by decide)]
  refine wpAny_bind ?_
  rw [listSliceParts_eq]
  refine wpAny_bind (wpAny_field hos hds (x := .none) rfl (wpAny_bind (wpAny_listPart .none ?_)))
  rw [if_neg (show ¬ ((rawPart none == rawInt 0) = true) from Bool.false_ne_true)]
  refine wpAny_bind (wpAny_field hos hds (x := .none) rfl (wpAny_bind (wpAny_listPart .none ?_)))
  refine wpAny_bind (wpAny_field hos hds (x := .none) rfl (wpAny_bind (wpAny_listPart .none (wpAny_pure ?_))))
  have hsame : Builtin.List.listSameRef (.ref r) (.ref D) = false := by
    show (r == D) = false
    simpa using hne
  simp only [hsame]
  refine wpAny_bind ?_
  unfold Builtin.List.listAllItems
  refine wpAny_bind (wpAny_typeOf hD.typeIs ?_)
  rw [if_pos (by decide)]
  refine listItems_at hoD hdD ?_
  refine wpAny_bind (listItems_at z.1 rfl ?_)
  refine wpAny_bind (wpAny_of_eq (sliceIndices_raw none none none xs.size (by decide)) ?_)
  have e1 : sliceBounds none none none xs.size = (0, (xs.size : Int), 1) := rfl
  rw [e1]
  simp only []
  rw [if_pos (by decide)]
  refine wpAny_bind (wpAny_rule ?_)
  have htl : Builtin.List.listTooLong (xs.size + ys.size) = false := by
    unfold Builtin.List.listTooLong
    rw [decide_eq_false_iff_not, sizeLine_eq]
    omega
  rw [htl, if_neg Bool.false_ne_true]
  have e2 : xs.extract 0 (0 : Int).toNat ++ ys ++ xs.extract (max 0 (xs.size : Int)).toNat = ys := by
    simp
  refine wpAny_bind (upd_K F N U (fun h' n' F' N' => ?_) (by rw [sizeLine_eq]; omega) (by show (_ : Array Value).size ≤ _; rw [e2, sizeLine_eq]; omega))
  rw [e2] at N'
  exact wpAny_bind (wpAny_letGo (wpAny_pure ⟨_, rfl, wpAny_pure (h h' n' F' N')⟩))

/-- del r[0] -/
theorem del0_K {t : Tok} {Q : Unit → Shared → Prop} (F : Fr h₀ L s.heap m) (N : News h₀ L s.heap news) (U : UpdF r (listOf xs n) news g) (hpos : 0 < xs.size)
    (hx : xs.size ≤ 1000) (h : ∀ h' n', Fr h₀ L h' m → News h₀ L h' (g (listOf (xs.eraseIdxIfInBounds 0) n')) → Q () { s with heap := h' }) :
    wpAny (model prog w) A (delItem (.ref r) (.int 0 t)) Q E s := by
  obtain ⟨pre, post, hnews, hg, h1, h2⟩ := U.split
  have z := N (r, listOf xs n) (by rw [hnews]; exact List.mem_append_right _ (.head _))
  have hl : s.heap.IsList r xs := ⟨_, z.1, rfl, n, rfl⟩
  unfold delItem
  refine wpAny_holding ?_
  refine wpAny_bind (wpAny_sequenceKey hl.typeIs (by decide) ?_)
  refine wpAny_bind (wpAny_callSpecial?_slot (name := Str.ofString "__delitem__") hl.typeIs PySem.F.slot_list_delitem
    (wpAny_call_entry PySem.F.slot_list_delitem hl.typeIs PySem.F.entry_list_delitem ?_ (PySem.F.args_list_delitem_2 _ _)))
  unfold Builtin.«list.__delitem__»
  refine wpAny_bind (m := slotArgs "__delitem__" 1 ⟨[.ref r, .int 0 t], []⟩) (wpAny_pure ?_)
  simp only []
  refine wpAny_bind ?_
  unfold Builtin.List.listSubscript?
  refine wpAny_bind (wpAny_specialOf (T := "int") (typeIs_int s 0 t) int_index ?_)
  simp only [Option.isNone_some, Bool.false_eq_true, if_false]
  refine wpAny_bind (wpAny_of_eq (a := 0) rfl ?_)
  rw [if_neg (by decide)]
  refine wpAny_pure ?_
  refine wpAny_bind (listItems_at z.1 rfl ?_)
  have hi : seqIndex? 0 xs.size = some 0 := by
    unfold seqIndex?
    simp [hpos]
  rw [hi]
  refine wpAny_bind (upd_K F N U (fun h' n' F' N' => ?_) (by rw [sizeLine_eq]; omega) ?_)
  · exact wpAny_pure ⟨_, rfl, wpAny_pure (h h' n' F' N')⟩
  · have hz : (xs.eraseIdxIfInBounds 0).size ≤ xs.size := by
      simp [Array.eraseIdxIfInBounds, hpos]
    rw [sizeLine_eq]
    exact Nat.le_trans hz (by omega)

/-- r += D -/
theorem iadd_K {D : Addr} {ys : Array Value} {Q : Value → Shared → Prop} (F : Fr h₀ L s.heap m) (N : News h₀ L s.heap news) (U : UpdF r (listOf xs n) news g) (hD : s.heap.IsList D ys)
    (hx : xs.size ≤ 1000) (hy : ys.size ≤ 1000) (h : ∀ h' n', Fr h₀ L h' m → News h₀ L h' (g (listOf (xs ++ ys) n')) → Q (.ref r) { s with heap := h' }) :
    wpAny (model prog w) A (inplaceOp .Add (.ref r) (.ref D)) Q E s := by
  obtain ⟨pre, post, hnews, hg, h1, h2⟩ := U.split
  have z := N (r, listOf xs n) (by rw [hnews]; exact List.mem_append_right _ (.head _))
  have hl : s.heap.IsList r xs := ⟨_, z.1, rfl, n, rfl⟩
  obtain ⟨oD, hoD, hcD, nD, hdD⟩ := id hD
  unfold inplaceOp
  refine wpAny_holding ?_
  have hfi : fillsInplaceSlot (.type "list") "add" (Operator.Add == .Add) = pure false := by
    unfold fillsInplaceSlot
    show (typeLookup (.type "list") (dunderI "add") >>= fun fi => pure (fi.isSome && !isSeqSlot fi)) = pure false
    rw [PySem.F.slot_list_iadd.lookup]
    have hq : isSeqSlot (some (.builtin "list.__iadd__")) = true := by decide +kernel
    show (pure ((some (Value.builtin "list.__iadd__")).isSome && !isSeqSlot (some (.builtin "list.__iadd__"))) : Sem Bool) = _
    rw [hq]; rfl
  refine wpAny_bind (wpAny_typeOf hl.typeIs (wpAny_bind (wpAny_of_eq hfi ?_)))
  show wpAny _ A (if false = true then _ else _) Q E s
  rw [if_neg Bool.false_ne_true]
  refine wpAny_bind (wpAny_binaryOp1_none (nm := "add") hl.typeIs hD.typeIs noFill_list_add ?_)
  refine wpAny_bind (wpAny_of_eq (PySem.seqSlot_of PySem.F.slot_list_iadd.lookup (by decide +kernel)) ?_)
  refine wpAny_bind (wpAny_rule ?_)
  refine wpAny_call_entry PySem.F.slot_list_iadd hl.typeIs PySem.F.entry_list_iadd ?_ (PySem.F.args_list_iadd_2 _ _)
  show wpAny _ _ (Builtin.List.listExtendWith (.ref r) (.ref D) (.ref r)) _ _ s
  unfold Builtin.List.listExtendWith
  refine wpAny_bind (wpAny_typeOf hD.typeIs ?_)
  rw [if_pos (by simp)]
  refine wpAny_bind (listItems_at hoD hdD ?_)
  refine wpAny_bind (listItems_at z.1 rfl ?_)
  have htl : Builtin.List.listTooLong (xs.size + ys.size) = false := by
    unfold Builtin.List.listTooLong
    rw [decide_eq_false_iff_not, sizeLine_eq]
    omega
  rw [htl, Bool.and_false, if_neg Bool.false_ne_true]
  refine wpAny_bind (upd_K F N U (fun h' n' F' N' => ?_) (by rw [sizeLine_eq]; omega) (by show (_ : Array Value).size ≤ _; rw [Array.size_append, sizeLine_eq]; omega))
  exact wpAny_bind (wpAny_pure (wpAny_pure ⟨_, rfl, h h' n' F' N'⟩))
theorem setAllP_K {H : Heap} {gs : Array GenState} {dr : Drawn} {tk : Nat} {os : OsState} {D : Addr} {ys : Array Value} {Q : Unit → Shared → Prop} (F : Fr h₀ L H m) (N : News h₀ L H news) (U : UpdF r (listOf xs n) news g) (hD : H.IsList D ys) (hne : r ≠ D)
    (hx : xs.size ≤ 1000) (hy : ys.size ≤ 1000) (h : ∀ h' n', Fr h₀ L h' m → News h₀ L h' (g (listOf ys n')) → Q () ⟨h', gs, dr, tk, os⟩) :
    wpAny (model prog w) A (setItem (.ref r) (.ref H.objs.size) (.ref D)) Q E ⟨H.push { cls := .type "slice", data := .fields #[.none, .none, .none] }, gs, dr, tk, os⟩ :=
  setAll_K (s := ⟨H.push { cls := .type "slice", data := .fields #[.none, .none, .none] }, gs, dr, tk, os⟩) (F.push _) (fun p hp => ⟨Heap.get?_push_of_some _ (N p hp).1, (N p hp).2⟩) U (Heap.IsSliceOf.new ..) (hD.at fun o e => Heap.get?_push_of_some _ e) hne hx hy h
end
end

section
theorem resetForL : True := by w_top off; trivial
section
variable {prog : Program} {w : World} {A : Around} {s : Shared} {env : Env}

theorem letOwned_list {target : PySem.Expr} {I : Addr} {oI : Obj} {v : Value} {E : Value → Shared → Prop} {Q : Unit → Shared → Prop} (ho : s.heap.get? I = some oI) (hc : oI.cls = .type "list_iterator") (h : Q () s) :
    wpAny (model prog w) A (letOwnedTupleGo target (.ref I) v) Q E s := by
  cases target with
  | Tuple es k p =>
    cases v with
    | ref b =>
      refine wpAny_bind (wpAny_load ho ?_)
      rw [hc]
      cases hd : oI.data <;> first | exact wpAny_pure h | (rename_i vs; refine wpAny_bind (m := pure ()) ?_ <;> exact wpAny_pure h) | (simp only []; rw [if_neg (by simp)]; exact wpAny_pure h)
    | _ => exact wpAny_pure h
  | List es p =>
    cases v with
    | ref b =>
      refine wpAny_bind (wpAny_load ho ?_)
      rw [hc]
      cases hd : oI.data <;> first | exact wpAny_pure h | (rename_i vs; refine wpAny_bind (m := pure ()) ?_ <;> exact wpAny_pure h) | (simp only []; rw [if_neg (by simp)]; exact wpAny_pure h)
    | _ => exact wpAny_pure h
  | _ => exact wpAny_pure h

abbrev itObj (l : Addr) (i : Nat) : Obj := { cls := .type "list_iterator", data := .fields #[.ref l, .int i 0] }

/-- how a turn of a for ends -/
def TurnEnd (h₀ : Heap) (L I : Addr) (oI : Obj) (s : Shared) (Inv : (Str → Option Value) → List (Addr × Obj) → Prop) (Q : Flow → Shared → Prop) (f : Flow) (s' : Shared) : Prop := match f with
  | .ret v => Q (.ret v) s'
  | .brk => Q .next s'
  | _ => ∃ h' tk m' led', s' = { s with heap := h', toks := tk } ∧ Fr h₀ L h' m' ∧ News h₀ L h' ((I, oI) :: led') ∧ (∀ q ∈ led', q.1 ≠ I) ∧ Inv m' led'

theorem forLoopG {target : PySem.Expr} {body orelse : List Stmt} {I ax L : Addr} {h₀ : Heap} {vs : List Value} {R : Result → Shared → Prop} {m : Str → Option Value} {led : List (Addr × Obj)} {oI : Obj}
    (Inv : Nat → (Str → Option Value) → List (Addr × Obj) → Prop) (hh : A.handled = none)
    (hl : ∀ i m led h, Inv i m led → Fr h₀ L h m → News h₀ L h led → h.IsList ax vs.toArray)
    (F : Fr h₀ L s.heap m) (N : News h₀ L s.heap ((I, oI) :: led)) (hoff : ∀ q ∈ led, q.1 ≠ I) (hI : oI.cls = .type "list_iterator" ∧ oI.data = .fields #[.ref ax, .int 0 0]) (h0 : Inv 0 m led)
    (turn : ∀ i v m led h tk oI (E' : Value → Shared → Prop), vs[i]? = some v → Inv i m led → Fr h₀ L h m → News h₀ L h ((I, oI) :: led) → (∀ q ∈ led, q.1 ≠ I) →
      wpAny (model prog w) A (assign target env v) (fun _ s₂ => wpAny (model prog w) A (execs body env) (TurnEnd h₀ L I oI s (Inv (i + 1)) (fun f s' => R (.ok f) s')) E' s₂) E' { s with heap := h, toks := tk })
    (done : ∀ m led h tk (E' : Value → Shared → Prop), Inv vs.length m led → Fr h₀ L h m → News h₀ L h led → wpAny (model prog w) A (execs orelse env) (fun f s' => R (.ok f) s') E' { s with heap := h, toks := tk }) :
    codeAny (model prog w) A (.forLoop target (.ref I) body orelse env) R s := by
  refine codeAny_forLoop_any
    (fun k s' => ∃ h' tk m' led' i oI', s' = { s with heap := h', toks := tk } ∧ i ≤ vs.length ∧ k = vs.length + 1 - i ∧ Fr h₀ L h' m' ∧ News h₀ L h' ((I, oI') :: led') ∧ (∀ q ∈ led', q.1 ≠ I) ∧ (oI'.cls = .type "list_iterator" ∧ oI'.data = .fields #[.ref ax, .int i 0]) ∧ Inv i m' led') ?_ (vs.length + 1)
    ⟨s.heap, s.toks, m, led, 0, oI, rfl, Nat.zero_le _, rfl, F, N, hoff, hI, h0⟩
  rintro k s' ⟨H, tk, m', led', i, oI', rfl, hi, rfl, F1, N1, hoff1, hI1, hInv⟩
  have nI := N1 _ (List.Mem.head _)
  have nI1 : H.get? I = some oI' := nI.1
  have nI2 : I ≠ L := nI.2.1
  have nI3 : h₀.get? I = none := nI.2.2
  have iI : H.IsListIter I ax i := ⟨oI', nI1, hI1.1, hI1.2⟩
  have N1' : News h₀ L H led' := fun q hq => N1 q (List.Mem.tail _ hq)
  have iL : H.IsList ax vs.toArray := hl _ _ _ _ hInv F1 N1'
  by_cases hlt : i < vs.length
  · have hv : vs[i]? = some vs[i] := List.getElem?_eq_getElem hlt
    refine wpAny_pyNext_list_item iI iL (x := vs[i]) (by simpa using hv) fun h₁ hit₁ hs₁ => ?_
    obtain ⟨oI₁, ho₁, hc₁, hd₁⟩ := hit₁
    have F2 : Fr h₀ L h₁ m' := F1.change hs₁ nI2 nI3
    have N2 : News h₀ L h₁ ((I, oI₁) :: led') := News.setAt (own := []) N1 (fun _ h => nomatch h) hoff1 hs₁ ho₁
    refine letOwned_list ho₁ hc₁ ?_
    refine wpAny_mono (turn i _ m' led' h₁ tk oI₁ _ hv hInv F2 N2 hoff1) (fun _ s₂ h₂ => wpAny_mono h₂ (fun f s₃ h₃ => ?_) fun _ _ e => e) fun _ _ e => e
    have fin : (∃ h' tk m' led', s₃ = { s with heap := h', toks := tk } ∧ Fr h₀ L h' m' ∧ News h₀ L h' ((I, oI₁) :: led') ∧ (∀ q ∈ led', q.1 ≠ I) ∧ Inv (i + 1) m' led') →
        ∃ k', k' < vs.length + 1 - i ∧ ∃ h' tk m' led' i' oI', s₃ = { s with heap := h', toks := tk } ∧ i' ≤ vs.length ∧ k' = vs.length + 1 - i' ∧ Fr h₀ L h' m' ∧ News h₀ L h' ((I, oI') :: led') ∧ (∀ q ∈ led', q.1 ≠ I) ∧ (oI'.cls = .type "list_iterator" ∧ oI'.data = .fields #[.ref ax, .int i' 0]) ∧ Inv i' m' led' := by
      rintro ⟨h', tk', m₂, led₂, e, F', N', ho', hv'⟩
      exact ⟨vs.length + 1 - (i + 1), by omega, h', tk', m₂, led₂, i + 1, oI₁, e, hlt, rfl, F', N', ho', ⟨hc₁, hd₁⟩, hv'⟩
    cases f with
    | ret v => exact h₃
    | brk => exact h₃
    | next => exact fin h₃
    | cont => exact fin h₃
  · have hin : i = vs.length := by omega
    refine wpAny_pyNext_list_end hh iI iL (by simp [hin]) fun h₁ hk₁ => ?_
    have F2 : Fr h₀ L h₁ m' := ⟨F1.ns.at' fun o e => hk₁ _ o (Ne.symm nI2) e, fun b o e => hk₁ b o (fun q => by rw [q, nI3] at e; cases e) (F1.keep b o e), F1.above⟩
    refine done m' led' h₁ tk _ (hin ▸ hInv) F2 (fun q hq => ?_)
    have hN := N1' q hq
    exact ⟨hk₁ _ _ (hoff1 q hq) hN.1, hN.2⟩

/-- what a for's list is to be -/
def ForSrc (prog : Program) (w : World) (A : Around) (env : Env) (target : PySem.Expr) (body orelse : List Stmt) (L : Addr) (h₀ : Heap) (Q : Flow → Shared → Prop) (xv : Value) (s₁ : Shared) : Prop :=
  ∃ ax, ∃ vs : List Value, ∃ m led, ∃ Inv : Nat → (Str → Option Value) → List (Addr × Obj) → Prop, xv = .ref ax ∧ Fr h₀ L s₁.heap m ∧ News h₀ L s₁.heap led ∧ Inv 0 m led ∧
      (∀ i m led h, Inv i m led → Fr h₀ L h m → News h₀ L h led → h.IsList ax vs.toArray) ∧
      (∀ I i v m led h tk oI (E' : Value → Shared → Prop), vs[i]? = some v → Inv i m led → Fr h₀ L h m → News h₀ L h ((I, oI) :: led) → (∀ q ∈ led, q.1 ≠ I) →
        wpAny (model prog w) A (assign target env v) (fun _ s₂ => wpAny (model prog w) A (execs body env) (TurnEnd h₀ L I oI s₁ (Inv (i + 1)) Q) E' s₂) E' { s₁ with heap := h, toks := tk }) ∧
      (∀ m led h tk (E' : Value → Shared → Prop), Inv vs.length m led → Fr h₀ L h m → News h₀ L h led → wpAny (model prog w) A (execs orelse env) Q E' { s₁ with heap := h, toks := tk })
theorem forG {target iter : PySem.Expr} {body orelse : List Stmt} {pos : Pos} {L : Addr} {h₀ : Heap} {m₀ : Str → Option Value} {Q : Flow → Shared → Prop} {E : Value → Shared → Prop} (hh : A.handled = none) (_F : Fr h₀ L s.heap m₀)
    (h : wpAny (model prog w) A (eval iter env) (ForSrc prog w A env target body orelse L h₀ Q) E s)
    (hs : ∀ x, foldedSetIterable iter env x = pure x) :
    wpAny (model prog w) A (exec (.For target iter body orelse pos) env) Q E s := by
  refine wpAny_For (wpAny_mono h (fun xv s₁ h₁ => ?_) fun _ _ e => e) hs
  obtain ⟨ax, vs, m, led, Inv, rfl, F, N, h0, hl, turn, done⟩ := h₁
  refine wpAny_pyIter_list (hl _ _ _ _ h0 F N) ?_
  refine forLoopG (vs := vs) (led := led) Inv hh hl (F.push _) (News.push F N _) (fun q hq => ?_) ⟨rfl, rfl⟩ h0 (fun i v m led h tk oI E' => turn _ i v m led h tk oI E') done
  exact Nat.ne_of_lt (Heap.lt_size (N q hq).1)
end
end
section
local macro_rules | `(tactic| k_room) => `(tactic| ktr_room)
local macro_rules | `(tactic| k_units) => `(tactic| ktr_units)

section
theorem resetBase : True := by w_top off; trivial
def code105 : Array Nat := #[14,10,4,1,1,22,0,31,16,127,0,13,7,22,0,31,16,127,0,1]
def code110 : Array Nat := #[14,14,4,1,1,9,4294966783,0,0,2147483648,0,0,0,0,0,13,11,9,4294966783,0,0,2147483648,0,0,0,0,0,1]
theorem pat105 {w : World} {h : Heap} (X : (hd.heap_1 w.params).In h) : PatAt h 105 code105 := by
  refine ⟨⟨_, _, 104, _, _, _, X 105 _ rfl, rfl, rfl, rfl, X 104 _ rfl, rfl, ?_⟩⟩
  decide +kernel
theorem pat110 {w : World} {h : Heap} (X : (hd.heap_1 w.params).In h) : PatAt h 110 code110 := by
  refine ⟨⟨_, _, 109, _, _, _, X 110 _ rfl, rfl, rfl, rfl, X 109 _ rfl, rfl, ?_⟩⟩
  decide +kernel

theorem callP {prog : Program} {w : World} {A : Around} {s : Shared} {K : Frag} {R : Result → Shared → Prop} {name qual : Str} {params : Arguments} {body : List Stmt} {scope : Scope} {dV kV doc pm cdv ct oc : Value} {an od : Option Addr} {osl : Array (Option Value)} {f : Addr} {args : Args} {binds : List (Str × Value)}
    (X : K.In s.heap) (hlim : s.heap.NoLimit)
    (ho : K.lookup f = some ⟨oc, od, .func (fnOf name qual params body scope dV kV doc pm an cdv ct), osl⟩) (hcd : codeIn K cdv qual = true) (hroom : A.depth < recursionLimit)
    (hbind : BindsTo s (fnOf name qual params body scope dV kV doc pm an cdv ct) args binds) (hloc : ∀ y ∈ binds, scope.names.lookup y.1 = some .local)
    (h : ∀ h₁, Fr s.heap s.heap.objs.size h₁ (fun y => binds.reverse.lookup y) → 
      wpAny (model prog w) (A.deeper (envOf qual scope s.heap.objs.size f cdv)) (execs body (envOf qual scope s.heap.objs.size f cdv))
        (fun fl s' => R (.ok (.ret (match fl with | .ret v => v | _ => .none))) s')
        (fun _ _ => False)
        { s with heap := h₁, toks := s.toks + binds.length })
    (hcell : ∀ x ∈ scope.names, x.2 ≠ .cell) 
    (hco : scope.isCoroutine = false := by rfl) (hgen : scope.isGenerator = false := by rfl) (hk : scope.kind = .function := by rfl) : codeAny (model prog w) A (.call (.ref f) args) R s :=
  codeAny_call_def (fd := fnOf name qual params body scope dV kV doc pm an cdv ct) (body := body) (binds := binds) hroom (X _ _ ho) rfl hlim (codeRec_of X hcd) rfl hbind hcell hloc
    (fun h₁ hns hk₁ => wpAny_mono (h h₁ ⟨hns, hk₁, Nat.le_refl _⟩) (fun _ _ x => x) (fun _ _ x => x.elim)) hco hgen hk

section
variable {prog : Program} {w : World} {A : Around} {s : Shared} {K : Frag} {R : Result → Shared → Prop} {name qual : Str} {params : Arguments} {body : List Stmt} {scope : Scope} {dV kV doc pm cdv ct oc : Value} {an od : Option Addr} {osl : Array (Option Value)} {f : Addr} {args : Args} {binds : List (Str × Value)} {news : List (Addr × Obj)}
theorem hide_none {b : Addr} {o : Obj} {q : Addr} (hq : s.heap.get? q = none) (e : (hideAll s.heap (news.map (·.1))).get? b = some o) : b ≠ q := by
  rintro rfl
  have := of_hideAll _ e
  rw [hq] at this
  cases this
/-- a def with no cells, the objects of news being those it may turn -/
theorem callN (X : K.In s.heap) (hlim : s.heap.NoLimit) (N0 : ∀ p ∈ news, s.heap.get? p.1 = some p.2)
    (ho : K.lookup f = some ⟨oc, od, .func (fnOf name qual params body scope dV kV doc pm an cdv ct), osl⟩) (hcd : codeIn K cdv qual = true) (hroom : A.depth < recursionLimit)
    (hbind : BindsTo s (fnOf name qual params body scope dV kV doc pm an cdv ct) args binds) (hloc : ∀ y ∈ binds, scope.names.lookup y.1 = some .local)
    (h : ∀ g h₁, (∀ b o, s.heap.get? b = some o → (∀ p ∈ news, b ≠ p.1) → g.get? b = some o) → (∀ b o, g.get? b = some o → s.heap.get? b = some o) → Fr g s.heap.objs.size h₁ (fun y => binds.reverse.lookup y) → News g s.heap.objs.size h₁ news → (∀ p ∈ news, p.1 < s.heap.objs.size) →
      wpAny (model prog w) (A.deeper (envOf qual scope s.heap.objs.size f cdv)) (execs body (envOf qual scope s.heap.objs.size f cdv))
        (fun fl s' => R (.ok (.ret (match fl with | .ret v => v | _ => .none))) s') (fun _ _ => False)
        { s with heap := h₁, toks := s.toks + binds.length })
    (hcell : ∀ x ∈ scope.names, x.2 ≠ .cell)
    (hco : scope.isCoroutine = false := by rfl) (hgen : scope.isGenerator = false := by rfl) (hk : scope.kind = .function := by rfl) : codeAny (model prog w) A (.call (.ref f) args) R s :=
  codeAny_call_def (fd := fnOf name qual params body scope dV kV doc pm an cdv ct) (body := body) (binds := binds) hroom (X _ _ ho) rfl hlim (codeRec_of X hcd) rfl hbind hcell hloc
    (fun h₁ hns hk₁ => wpAny_mono (h (hideAll s.heap (news.map (·.1))) h₁
      (fun b o e hb => hideAll_get _ e fun hm => by obtain ⟨p, hp, q⟩ := List.mem_map.mp hm; exact hb p hp q.symm) (fun b o e => of_hideAll _ e)
      ⟨hns, fun b o e => hk₁ b o (of_hideAll _ e), Nat.le_of_eq (hideAll_size _ _)⟩
      (fun p hp => ⟨hk₁ _ _ (N0 p hp), Nat.ne_of_lt (Heap.lt_size (N0 p hp)), hideAll_none _ (List.mem_map_of_mem hp)⟩) fun p hp => Heap.lt_size (N0 p hp)) (fun _ _ x => x) (fun _ _ x => x.elim)) hco hgen hk
/-- a def with cells -/
theorem callNC (X : K.In s.heap) (hlim : s.heap.NoLimit) (N0 : ∀ p ∈ news, s.heap.get? p.1 = some p.2)
    (ho : K.lookup f = some ⟨oc, od, .func (fnOf name qual params body scope dV kV doc pm an cdv ct), osl⟩) (hcd : codeIn K cdv qual = true) (hroom : A.depth < recursionLimit)
    (hbind : BindsTo s (fnOf name qual params body scope dV kV doc pm an cdv ct) args binds) (hkind : (binds.all fun y => scope.names.lookup y.1 == some .local || scope.names.lookup y.1 == some .cell) = true)
    (hnd : ((cellsFrom 0 scope.names []).map (·.1)).Nodup)
    (h : ∀ g h₁ tk cells, (∀ b o, s.heap.get? b = some o → (∀ p ∈ news, b ≠ p.1) → g.get? b = some o) → (∀ b o, g.get? b = some o → s.heap.get? b = some o) → Fr g s.heap.objs.size h₁ (bindL (envOfC qual scope s.heap.objs.size f cdv).kindOf binds fun _ => none) → News g s.heap.objs.size h₁ (cells ++ news) →
      CellsAre (bindC (envOfC qual scope s.heap.objs.size f cdv).kindOf binds fun _ => none) (cellsFrom (s.heap.objs.size + 1) scope.names []) cells → (∀ p ∈ news, p.1 < s.heap.objs.size) →
      wpAny (model prog w) (A.deeper (envOfC qual scope s.heap.objs.size f cdv)) (execs body (envOfC qual scope s.heap.objs.size f cdv))
        (fun fl s' => R (.ok (.ret (match fl with | .ret v => v | _ => .none))) s') (fun _ _ => False)
        { s with heap := h₁, toks := tk })
    (hco : scope.isCoroutine = false := by rfl) (hgen : scope.isGenerator = false := by rfl) (hk : scope.kind = .function := by rfl) : codeAny (model prog w) A (.call (.ref f) args) R s := by
  refine codeAny_call_function hroom (X _ _ ho) rfl hco hgen rfl (codeRec_of X hcd) (hbind _ _ _ _ ?_)
  refine wpAny_newFunctionEnv_cells hk (kindsX hkind _) fun env' he s' x => ?_
  subst he
  refine ⟨hlim.keeps x.toInCall.keep, codeAny_func ?_⟩
  obtain ⟨h₁, tk, rfl, _⟩ := x.done
  have hk₁ := x.toInCall.keep
  obtain ⟨cells, NC, Y⟩ := Cl.news (h₀ := s.heap) (Nat.le_refl _) fun n c hm => ⟨x.cell n c (lookup_of_mem_nodup (cellsFrom_names scope.names 0 (s.heap.objs.size + 1) [] [] rfl ▸ hnd) hm), x.above n c hm⟩
  refine wpAny_mono (h (hideAll s.heap (news.map (·.1))) h₁ tk cells (fun b o e hb => hideAll_get _ e fun hm => by obtain ⟨p, hp, q⟩ := List.mem_map.mp hm; exact hb p hp q.symm) (fun b o e => of_hideAll _ e)
    ⟨x.toInCall.ns, fun b o e => hk₁ b o (of_hideAll _ e), Nat.le_of_eq (hideAll_size _ _)⟩ (fun p hp => ?_) Y fun p hp => Heap.lt_size (N0 p hp)) (fun _ _ x => x) (fun _ _ x => x.elim)
  rcases List.mem_append.mp hp with hp | hp
  · refine ⟨(NC p hp).1, (NC p hp).2.1, ?_⟩
    cases q : (hideAll s.heap (news.map (·.1))).get? p.1 with
    | none => rfl
    | some o =>
      have := of_hideAll _ q
      rw [(NC p hp).2.2] at this
      cases this
  · exact ⟨hk₁ _ _ (N0 p hp), Nat.ne_of_lt (Heap.lt_size (N0 p hp)), hideAll_none _ (List.mem_map_of_mem hp)⟩
end

/-- a pair of the table's list -/
def RowAt (h : Heap) (v : Value) (r : Str × Str) : Prop := ∃ a t1 t2, v = .ref a ∧ IsTup h a #[.str r.1 t1, .str r.2 t2] ∧ r.1.length ≤ 100 ∧ r.2.length ≤ 100
theorem RowAt.keeps {h h' : Heap} {v : Value} {r : Str × Str} (x : RowAt h v r) (k : ∀ b o, h.get? b = some o → h'.get? b = some o) : RowAt h' v r := let ⟨a, t1, t2, e, i, b⟩ := x; ⟨a, t1, t2, e, i.keeps k, b⟩
abbrev Rows (h : Heap) (vs : List Value) (rs : List (Str × Str)) : Prop := PySem.Paired (RowAt h) vs rs
theorem Rows.keeps {h h' : Heap} {vs : List Value} {rs : List (Str × Str)} (x : Rows h vs rs) (k : ∀ b o, h.get? b = some o → h'.get? b = some o) : Rows h' vs rs := PySem.Paired.mono (fun _ _ y => y.keeps k) x
/-- the table: the object itself and its dict -/
structure Tbl (h : Heap) (x r : Addr) : Prop where
  out : ∃ dx hsh ktk, h.get? x = some (instObj 239 dx) ∧ h.get? dx = some (dictOf [⟨hsh, .str (Str.ofString "_headers") ktk, .ref r⟩] 1)
theorem Tbl.keeps {h h' : Heap} {x r : Addr} (T : Tbl h x r) (k : ∀ b o, h.get? b = some o → h'.get? b = some o) : Tbl h' x r := let ⟨dx, hsh, ktk, a, b⟩ := T.out; ⟨dx, hsh, ktk, k _ _ a, k _ _ b⟩

theorem tbl_inst {h : Heap} {x dx : Addr} {d : Obj} (h1 : h.get? x = some (instObj 239 dx)) (h2 : h.get? dx = some d) : InstAt h x (instObj 239 dx) 239 (some d) := ⟨h1, rfl, rfl, h2⟩
section
variable {M : Model} {A : Around} {E : Value → Shared → Prop} {s : Shared} {K : Frag} {h₀ : Heap} {L x C f : Addr} {m : Str → Option Value} {ox : Obj} {od : Option Obj} {v : Value}
theorem delItem_K {Q : Unit → Shared → Prop} (F : Fr h₀ L s.heap m) (X₀ : K.In h₀) (I : InstAt s.heap x ox C od) (hq : noSeq K C = true) (hs : findIn K (.ref C) "__delitem__" = some (some (.ref f))) (hf : isFn K (.ref f) = true)
    (h : wpAny M A (call (.ref f) [.ref x, v]) (fun _ => Q ()) E s) : wpAny M A (delItem (.ref x) v) Q E s := by
  have X := X₀.keeps F.keep
  unfold delItem sequenceKey
  refine wpAny_holding (wpAny_bind (wpAny_bind (I.type.here ?_)))
  refine wpAny_bind ((anyM_none X hq).here ?_)
  rw [if_pos (show (!false) = true from rfl)]
  exact wpAny_pure (wpAny_bind (special_fn X I hs (beq_iff_eq.mp hf) (wpAny_mono h (fun _ _ z => wpAny_pure z) fun _ _ z => z)))
end

theorem tup_ne {h : Heap} {a r : Addr} {items : Array Value} {ys : Array Value} {n : Nat} (t : IsTup h a items) (hr : h.get? r = some (listOf ys n)) : a ≠ r := by
  rintro rfl
  obtain ⟨o, ho, hc, _⟩ := t
  rw [hr] at ho
  cases ho
  exact absurd (show Value.type "list" = Value.type "tuple" from hc) (by decide)
theorem obj_ne {h : Heap} {a r : Addr} {o o' : Obj} (h1 : h.get? a = some o) (h2 : h.get? r = some o') (hc : o.cls ≠ o'.cls) : a ≠ r := by
  rintro rfl
  rw [h1] at h2
  cases h2
  exact hc rfl
theorem RowAt.hide {h g : Heap} {r : Addr} {ys : Array Value} {n : Nat} {v : Value} {p : Str × Str} (hr : h.get? r = some (listOf ys n)) (keep : ∀ b o, h.get? b = some o → b ≠ r → g.get? b = some o) (x : RowAt h v p) : RowAt g v p := by
  obtain ⟨a, t1, t2, e, i, b⟩ := x
  have hne := tup_ne i hr
  obtain ⟨o, ho, rest⟩ := i
  exact ⟨a, t1, t2, e, ⟨o, keep _ _ ho hne, rest⟩, b⟩
theorem Rows.hide {h g : Heap} {r : Addr} {ys : Array Value} {n : Nat} {vs : List Value} {rs : List (Str × Str)} (hr : h.get? r = some (listOf ys n)) (keep : ∀ b o, h.get? b = some o → b ≠ r → g.get? b = some o) (x : Rows h vs rs) : Rows g vs rs :=
  PySem.Paired.mono (fun _ _ y => y.hide hr keep) x
theorem keep_one {h g : Heap} {r : Addr} {o₀ : Obj} (keep : ∀ b o, h.get? b = some o → (∀ p ∈ [(r, o₀)], b ≠ p.1) → g.get? b = some o) : ∀ b o, h.get? b = some o → b ≠ r → g.get? b = some o :=
  fun b o e hb => keep b o e fun p hp => by rw [List.mem_singleton.mp hp]; exact hb
theorem base_in {hb h g : Heap} {r : Addr} (kb : ∀ b o, hb.get? b = some o → h.get? b = some o) (hr0 : hb.get? r = none) (keep : ∀ b o, h.get? b = some o → b ≠ r → g.get? b = some o) : ∀ b o, hb.get? b = some o → g.get? b = some o :=
  fun b o e => keep b o (kb b o e) fun q => by rw [q, hr0] at e; cases e

section
variable {M : Model} {A : Around} {E : Value → Shared → Prop} {s : Shared} {h₀ : Heap} {L : Addr} {m : Str → Option Value} {news : List (Addr × Obj)}
theorem News.keepsK (N : News h₀ L s.heap news) {h' : Heap} (k : ∀ b o, s.heap.get? b = some o → h'.get? b = some o) : News h₀ L h' news := fun p hp => ⟨k _ _ (N p hp).1, (N p hp).2⟩
/-- a call that keeps the heap, walked on from -/
theorem pure_K {t : Sem Value} {P : Value → Shared → Prop} {Q : Value → Shared → Prop} (h : wpAny M A t (fun v s' => P v s' ∧ PySem.Keeps s s') E s) (F : Fr h₀ L s.heap m) (N : News h₀ L s.heap news)
    (hq : ∀ v h' tk', P v { s with heap := h', toks := tk' } → (∀ b o, s.heap.get? b = some o → h'.get? b = some o) → Fr h₀ L h' m → News h₀ L h' news → Q v { s with heap := h', toks := tk' }) : wpAny M A t Q E s :=
  wpAny_mono h (fun v s' z => by
    obtain ⟨p, h', tk, rfl, k⟩ := z
    exact hq v h' tk p k (F.keeps k) (News.keepsK N k)) fun _ _ e => e
end

section
variable {M : Model} {A : Around} {E : Value → Shared → Prop} {s : Shared} {h₀ : Heap} {C : Addr} {m mg mb : Str → Option Value} {env : Env} {x : Str} {pos : Pos} {v : Value} {Q : Value → Shared → Prop}
theorem cname_L (F : Fr h₀ C s.heap m) (hv : m x = some v) (h : Q v s) (hL : env.locals = C) (hk : env.scope.kind = .function) (hx : env.kindOf x = some .local) (hd : (x == ("__debug__" : Str)) = false) : wpAny M A (eval (.Name x pos) env) Q E s :=
  wpAny_Name (wpAny_loadName_local hk hx (hL ▸ F.ns) hv h) hd
theorem cname_C {c : Addr} {o : Obj} (F : Fr h₀ C s.heap m) (hc : env.cells.lookup x = some c) (ho : h₀.get? c = some o) (hd : o.data = .cell (some v)) (h : Q v s) (hk : env.scope.kind = .function) (hx : env.kindOf x = some .cell) (hb : (x == ("__debug__" : Str)) = false) :
    wpAny M A (eval (.Name x pos) env) Q E s := wpAny_Name (wpAny_loadName_cell hk hx hc ⟨o, F.keep _ _ ho, hd⟩ h) hb
end

theorem News.addK {h₀ h h' : Heap} {L D : Addr} {m : Str → Option Value} {news : List (Addr × Obj)} {o : Obj} (F : Fr h₀ L h m) (N : News h₀ L h news) (k : ∀ b ob, h.get? b = some ob → h'.get? b = some ob) (hD : h.get? D = none) (hg : h'.get? D = some o) :
    News h₀ L h' ((D, o) :: news) := by
  intro p hp
  rcases List.mem_cons.mp hp with rfl | hp
  · refine ⟨hg, fun e => ?_, ?_⟩
    · obtain ⟨oL, _, _, hL, _⟩ := F.ns
      have e' : D = L := e
      rw [← e', hD] at hL
      cases hL
    · show h₀.get? D = none
      cases q : h₀.get? D with
      | none => rfl
      | some ob =>
        have := F.keep _ _ q
        rw [hD] at this
        cases this
  · exact ⟨k _ _ (N p hp).1, (N p hp).2⟩

theorem bne_dec (a b : Str) : (a != b) = decide (a ≠ b) := by
  by_cases h : a = b
  · subst h; simp
  · simp [h]
theorem beq_dec (a b : Str) : (a == b) = decide (a = b) := by
  by_cases h : a = b
  · subst h; simp
  · simp [h]

def StrIs (x : Str) (v : Value) (_s : Shared) : Prop := ∃ tk, v = .str x tk
/-- what a header's value says: a plain text, or charset, tongue and text -/
structure Th where
  head : Option (Str × Str)
  text : Str
def ThAt (h : Heap) (v : Value) (t : Th) : Prop := ∃ a, v = .ref a ∧ match t.head with
  | none => ∃ t1, IsTup h a #[.none, .none, .str t.text t1]
  | some p => ∃ t1 t2 t3, IsTup h a #[.str p.1 t1, .str p.2 t2, .str t.text t3]
def tick : Str := Str.ofString "'"
def wr (t : Th) : Str := match t.head with
  | none => t.text
  | some p => p.1 ++ tick ++ p.2 ++ tick ++ t.text
def Th.short (t : Th) : Prop := t.text.length ≤ 20 ∧ ∀ p, t.head = some p → p.1.length ≤ 20 ∧ p.2.length ≤ 20
theorem ThAt.keeps {h h' : Heap} {v : Value} {t : Th} (x : ThAt h v t) (k : ∀ b o, h.get? b = some o → h'.get? b = some o) : ThAt h' v t := by
  obtain ⟨a, e, x⟩ := x
  refine ⟨a, e, ?_⟩
  cases hd : t.head with
  | none =>
    rw [hd] at x
    obtain ⟨t1, i⟩ := x
    exact ⟨t1, i.keeps k⟩
  | some p =>
    rw [hd] at x
    obtain ⟨t1, t2, t3, i⟩ := x
    exact ⟨t1, t2, t3, i.keeps k⟩

/-- what comes back of a call that keeps the heap -/
def PK (s : Shared) (P : Heap → Value → Prop) (v : Value) (s' : Shared) : Prop := P s'.heap v ∧ PySem.Keeps s s'
theorem PK.of {s : Shared} {P : Heap → Value → Prop} {v : Value} {h' : Heap} {tk : Nat} {L : Addr} {m : Str → Option Value} (F : Fr s.heap L h' m) (p : P h' v) : PK s P v { s with heap := h', toks := tk } := ⟨p, h', tk, rfl, F.keep⟩
section
variable {M : Model} {A : Around} {E : Value → Shared → Prop} {s : Shared} {h₀ : Heap} {L : Addr} {m : Str → Option Value} {news : List (Addr × Obj)}
theorem pk_K {t : Sem Value} {P : Heap → Value → Prop} {Q : Value → Shared → Prop} (h : wpAny M A t (PK s P) E s) (F : Fr h₀ L s.heap m) (N : News h₀ L s.heap news)
    (hq : ∀ v h' tk', P h' v → (∀ b o, s.heap.get? b = some o → h'.get? b = some o) → Fr h₀ L h' m → News h₀ L h' news → Q v { s with heap := h', toks := tk' }) : wpAny M A t Q E s :=
  wpAny_mono h (fun v s' z => by
    obtain ⟨p, h', tk, rfl, k⟩ := z
    exact hq v h' tk p k (F.keeps k) (News.keepsK N k)) fun _ _ e => e
end
theorem fm_lo (a : Int) {b : Int} (h : 0 < b) : 0 ≤ Int.fmod a b := Int.fmod_nonneg_of_pos _ h
theorem fm_hi (a : Int) {b : Int} (h : 0 < b) : Int.fmod a b < b := Int.fmod_lt_of_pos _ h
section
variable {prog : Program} {w : World} {A : Around} {E : Value → Shared → Prop} {s : Shared} {h₀ : Heap} {L l : Addr} {m : Str → Option Value} {news : List (Addr × Obj)} {value slice : PySem.Expr} {k : Int} {u : Tok} {n : Nat} {Q : Value → Shared → Prop}
theorem menu_at {vs : List Value} {v : Value} (N : News h₀ L s.heap news) (hm : (l, listOf vs.toArray n) ∈ news) (h0 : 0 ≤ k) (hhi : k < 2 ^ 63) (hx : vs[k.toNat]? = some v) (h : Q v s)
    (hs : subscripted slice false (.ref l) (.int k u) = operate [.ref l, .int k u] (getItem (.ref l) (.int k u))) : wpAny (model prog w) A (subscriptTail value slice (.ref l) (.int k u)) Q E s :=
  have hl : s.heap.IsList l vs.toArray := ⟨_, (N _ hm).1, rfl, n, rfl⟩
  tail_any hl.typeIs slot_list_getitem.lookup (wpAny_getItem_list hl h0 hhi (by simpa using hx) h) hs
def pick2 (k : Int) (a b : Str) : Str := if k = 0 then a else b
def pick3 (k : Int) (a b c : Str) : Str := if k = 0 then a else if k = 1 then b else c
def pick6 (k : Int) (a b c d e f : Str) : Str := if k = 0 then a else if k = 1 then b else if k = 2 then c else if k = 3 then d else if k = 4 then e else f
theorem menu2 {a b : Str} {t1 t2 : Tok} (N : News h₀ L s.heap news) (hm : (l, listOf [.str a t1, .str b t2].toArray n) ∈ news) (h0 : 0 ≤ k) (h1 : k < 2) (hB : (decide (a.length ≤ 20 ∧ b.length ≤ 20)) = true) (h : ∀ tk, (pick2 k a b).length ≤ 20 → Q (.str (pick2 k a b) tk) s)
    (hs : subscripted slice false (.ref l) (.int k u) = operate [.ref l, .int k u] (getItem (.ref l) (.int k u))) : wpAny (model prog w) A (subscriptTail value slice (.ref l) (.int k u)) Q E s := by
  have hc : k = 0 ∨ k = 1 := by omega
  have hB' := of_decide_eq_true hB
  have hlen : (pick2 k a b).length ≤ 20 := by unfold pick2; (repeat' split) <;> omega
  rcases hc with rfl | rfl
  · exact menu_at N hm (by decide) (by decide) rfl (h t1 hlen) hs
  · exact menu_at N hm (by decide) (by decide) rfl (h t2 hlen) hs
theorem menu3 {a b c : Str} {t1 t2 t3 : Tok} (N : News h₀ L s.heap news) (hm : (l, listOf [.str a t1, .str b t2, .str c t3].toArray n) ∈ news) (h0 : 0 ≤ k) (h1 : k < 3) (hB : (decide (a.length ≤ 20 ∧ b.length ≤ 20 ∧ c.length ≤ 20)) = true) (h : ∀ tk, (pick3 k a b c).length ≤ 20 → Q (.str (pick3 k a b c) tk) s)
    (hs : subscripted slice false (.ref l) (.int k u) = operate [.ref l, .int k u] (getItem (.ref l) (.int k u))) : wpAny (model prog w) A (subscriptTail value slice (.ref l) (.int k u)) Q E s := by
  have hc : k = 0 ∨ k = 1 ∨ k = 2 := by omega
  have hB' := of_decide_eq_true hB
  have hlen : (pick3 k a b c).length ≤ 20 := by unfold pick3; (repeat' split) <;> omega
  rcases hc with rfl | rfl | rfl
  · exact menu_at N hm (by decide) (by decide) rfl (h t1 hlen) hs
  · exact menu_at N hm (by decide) (by decide) rfl (h t2 hlen) hs
  · exact menu_at N hm (by decide) (by decide) rfl (h t3 hlen) hs
theorem menu6 {a b c d e f : Str} {t1 t2 t3 t4 t5 t6 : Tok} (N : News h₀ L s.heap news) (hm : (l, listOf [.str a t1, .str b t2, .str c t3, .str d t4, .str e t5, .str f t6].toArray n) ∈ news) (h0 : 0 ≤ k) (h1 : k < 6) (hB : (decide (a.length ≤ 20 ∧ b.length ≤ 20 ∧ c.length ≤ 20 ∧ d.length ≤ 20 ∧ e.length ≤ 20 ∧ f.length ≤ 20)) = true) (h : ∀ tk, (pick6 k a b c d e f).length ≤ 20 → Q (.str (pick6 k a b c d e f) tk) s)
    (hs : subscripted slice false (.ref l) (.int k u) = operate [.ref l, .int k u] (getItem (.ref l) (.int k u))) : wpAny (model prog w) A (subscriptTail value slice (.ref l) (.int k u)) Q E s := by
  have hc : k = 0 ∨ k = 1 ∨ k = 2 ∨ k = 3 ∨ k = 4 ∨ k = 5 := by omega
  have hB' := of_decide_eq_true hB
  have hlen : (pick6 k a b c d e f).length ≤ 20 := by unfold pick6; (repeat' split) <;> omega
  rcases hc with rfl | rfl | rfl | rfl | rfl | rfl
  · exact menu_at N hm (by decide) (by decide) rfl (h t1 hlen) hs
  · exact menu_at N hm (by decide) (by decide) rfl (h t2 hlen) hs
  · exact menu_at N hm (by decide) (by decide) rfl (h t3 hlen) hs
  · exact menu_at N hm (by decide) (by decide) rfl (h t4 hlen) hs
  · exact menu_at N hm (by decide) (by decide) rfl (h t5 hlen) hs
  · exact menu_at N hm (by decide) (by decide) rfl (h t6 hlen) hs
end

def small (g : Int) : Str := pick3 g (Str.ofString "title") (Str.ofString "note") (Str.ofString "n")
def tl (g b : Int) : Str := if b = 1 then Txt.upper (small g) else small g
def txtM (k : Int) : Str := pick6 k (Str.ofString "") (Str.ofString "a") (Str.ofString "%27") (Str.ofString "o'b") (Str.ofString "'") (Str.ofString "a b")
def thOf (i4 i6 i2 i3 : Int) : Th := if i4 = 3 then ⟨none, txtM i6⟩ else ⟨some (pick2 i2 (Str.ofString "utf-8") (Str.ofString ""), pick3 i4 (Str.ofString "en") (Str.ofString "de") (Str.ofString "")), txtM i6 ++ Txt.mul (Str.ofString "'") i3⟩
def thingOf (z : Int) : Th := thOf (Int.fmod z 4) (Int.fmod (Int.fdiv z 4) 6) (Int.fmod (Int.fdiv z 24) 2) (Int.fmod (Int.fdiv z 48) 3)

def GetIs (rs : List (Str × Str)) (low : Str) (v : Value) : Prop := match rs.find? (fun q => decide (Txt.lower q.1 = low)) with
  | none => v = .none
  | some q => ∃ tk, v = .str q.2 tk

section
variable {prog : Program} {w : World} {A : Around} {E : Value → Shared → Prop} {s : Shared} {env : Env} {h₀ : Heap} {L : Addr} {m : Str → Option Value} {news : List (Addr × Obj)}
theorem assign2_K {a b : Str} {pa pb tp : Pos} {kk : Nat} {T : Addr} {x y : Value} {Q : Unit → Shared → Prop} (hh : A.handled = none) (F : Fr h₀ L s.heap m) (N : News h₀ L s.heap news) (ht : IsTup s.heap T #[x, y]) (hL : env.locals = L)
    (ha : env.kindOf a = some .local) (hb : env.kindOf b = some .local) (hp : (env.scope.kind == .class || (env.scope.kind == .module && env.locals != env.globals)) = false)
    (h : ∀ (h' : Heap) (tk : Nat), Fr h₀ L h' (fun z => if z = b then some y else if z = a then some x else m z) → News h₀ L h' news → Q () { s with heap := h', toks := tk }) :
    wpAny (model prog w) A (assign (.Tuple [.Name a pa, .Name b pb] kk tp) env (.ref T)) Q E s := by
  subst hL
  refine kcp_assign hh ht ha hb hp F.ns fun h' tk hn k => h h' tk ⟨hn, fun c o e => k c o (fun q => ?_) (F.keep c o e), F.above⟩ fun p hp => ⟨k _ _ (N p hp).2.1 (N p hp).1, (N p hp).2⟩
  exact Nat.lt_irrefl _ (Nat.lt_of_lt_of_le (q ▸ Heap.lt_size e) F.above)
end

theorem find_at {α : Type} {p : α → Bool} {l : List α} {i : Nat} {q : α} (hno : (l.take i).find? p = none) (hq : l[i]? = some q) (hp : p q = true) : l.find? p = some q := by
  obtain ⟨hi, e⟩ := List.getElem?_eq_some_iff.mp hq
  have h : l = l.take i ++ q :: l.drop (i + 1) := by
    rw [← e, List.getElem_cons_drop, List.take_append_drop]
  rw [h, List.find?_append, hno, List.find?_cons, hp]
  rfl
theorem find_more {α : Type} {p : α → Bool} {l : List α} {i : Nat} {q : α} (hno : (l.take i).find? p = none) (hq : l[i]? = some q) (hp : p q = false) : (l.take (i + 1)).find? p = none := by
  rw [List.take_add_one, hq, List.find?_append, hno]
  simp [hp]

/-- a turn of the table's list by a call: all else stands; the pairs are told at hq -/
def TurnP (s : Shared) (r : Addr) (hq : Heap) (rs' : List (Str × Str)) (P : Value → Prop) (v : Value) (s' : Shared) : Prop :=
  P v ∧ ∃ h' tk vs' n', s' = { s with heap := h', toks := tk } ∧ (∀ b o, b ≠ r → s.heap.get? b = some o → h'.get? b = some o) ∧ h'.get? r = some (listOf vs'.toArray n') ∧ Rows hq vs' rs' ∧ vs'.length ≤ 101
section
variable {M : Model} {A : Around} {E : Value → Shared → Prop} {s : Shared} {h₀ : Heap} {L : Addr} {m : Str → Option Value} {news : List (Addr × Obj)} {g : Obj → List (Addr × Obj)} {r : Addr} {o : Obj}
theorem turn_K {t : Sem Value} {hq : Heap} {rs' : List (Str × Str)} {P : Value → Prop} {Q : Value → Shared → Prop} (h : wpAny M A t (TurnP s r hq rs' P) E s) (F : Fr h₀ L s.heap m) (N : News h₀ L s.heap news) (U : UpdF r o news g)
    (hc : ∀ v h' tk vs' n', P v → Rows hq vs' rs' → vs'.toArray.size ≤ 1000 → Fr h₀ L h' m → News h₀ L h' (g (listOf vs'.toArray n')) → Q v { s with heap := h', toks := tk }) : wpAny M A t Q E s :=
  wpAny_mono h (fun v s' z => by
    obtain ⟨p, h', tk, vs', n', rfl, k, hr, R, hz⟩ := z
    obtain ⟨pre, post, rfl, hg, h1, h2⟩ := U.split
    have nr := N (r, o) (List.mem_append_right _ (.head _))
    refine hc v h' tk vs' n' p R (Nat.le_trans hz (by decide)) ⟨F.ns.at' fun ob e => k _ _ (Ne.symm nr.2.1) e, fun b ob e => k b ob (fun q => ?_) (F.keep b ob e), F.above⟩ ?_
    · have := nr.2.2
      rw [← q, e] at this
      cases this
    · rw [hg]
      intro p hp
      rcases List.mem_append.mp hp with hp | hp
      · have z := N p (List.mem_append_left _ hp)
        exact ⟨k _ _ (h1 p hp) z.1, z.2⟩
      · rcases List.mem_cons.mp hp with rfl | hp
        · exact ⟨hr, nr.2⟩
        · have z := N p (List.mem_append_right _ (List.Mem.tail _ hp))
          exact ⟨k _ _ (h2 p hp) z.1, z.2⟩) fun _ _ e => e
end
section
variable {prog : Program} {w : World} {A₀ A : Around} {s : Shared} {base h₀ : Heap} {outer : List Env} {L : Addr} {m : Str → Option Value} {env : Env} {K : Frag} {R : Result → Shared → Prop} {name qual : Str} {params : Arguments} {body : List Stmt} {scope : Scope} {dV kV doc pm cdv ct oc : Value} {an od : Option Addr} {osl : Array (Option Value)} {f : Addr} {args : Args} {binds : List (Str × Value)} {news : List (Addr × Obj)}
/-- a def with no cells that may raise, the objects of news being those it may turn -/
theorem callNB (B : Below A₀ base outer h₀) (F : Fr h₀ L s.heap m) (N : News h₀ L s.heap news) (X : K.In s.heap) (hlim : s.heap.NoLimit) (hA : A.frames = some (env :: outer)) (hf : env.frame = some L) (hke : env.scope.kind = .function)
    (ho : K.lookup f = some ⟨oc, od, .func (fnOf name qual params body scope dV kV doc pm an cdv ct), osl⟩) (hcd : codeIn K cdv qual = true) (hroom : A.depth < recursionLimit)
    (hbind : BindsTo s (fnOf name qual params body scope dV kV doc pm an cdv ct) args binds) (hloc : ∀ y ∈ binds, scope.names.lookup y.1 = some .local)
    (h : ∀ g h₁, (∀ b o, s.heap.get? b = some o → (∀ p ∈ news, b ≠ p.1) → g.get? b = some o) → (∀ b o, g.get? b = some o → s.heap.get? b = some o) → Fr g s.heap.objs.size h₁ (fun y => binds.reverse.lookup y) → News g s.heap.objs.size h₁ news → Below A base (env :: outer) g → (∀ p ∈ news, p.1 < s.heap.objs.size) →
      wpAny (model prog w) (A.deeper (envOf qual scope s.heap.objs.size f cdv)) (execs body (envOf qual scope s.heap.objs.size f cdv))
        (fun fl s' => R (.ok (.ret (match fl with | .ret v => v | _ => .none))) s')
        (fun e s' => wpAny (model prog w) (A.deeper (envOf qual scope s.heap.objs.size f cdv)) (leaving (envOf qual scope s.heap.objs.size f cdv) e) (fun _ s'' => R (.error e) s'') (fun e' s'' => R (.error e') s'') s')
        { s with heap := h₁, toks := s.toks + binds.length })
    (hcell : ∀ x ∈ scope.names, x.2 ≠ .cell)
    (hco : scope.isCoroutine = false := by rfl) (hgen : scope.isGenerator = false := by rfl) (hk : scope.kind = .function := by rfl) : codeAny (model prog w) A (.call (.ref f) args) R s := by
  obtain ⟨FG, BG, st, lv⟩ := groundX (R := R) B F N hA hf hke
  refine codeAny_call_def (fd := fnOf name qual params body scope dV kV doc pm an cdv ct) (body := body) (binds := binds) hroom (X _ _ ho) rfl hlim (codeRec_of X hcd) rfl hbind hcell hloc (fun h₁ hns hk₁ => ?_) hco hgen hk
  exact h _ h₁ (fun b o e hb => hideAll_get _ e fun hm => by obtain ⟨p, hp, q⟩ := List.mem_map.mp hm; exact hb p hp q.symm) (fun b o e => of_hideAll _ e)
    ⟨hns, fun b o e => hk₁ b o (of_hideAll _ e), Nat.le_of_eq (hideAll_size _ _)⟩
    (fun p hp => ⟨hk₁ _ _ (N p hp).1, Nat.ne_of_lt (Heap.lt_size (N p hp).1), hideAll_none _ (List.mem_map_of_mem hp)⟩) BG fun p hp => Heap.lt_size (N p hp).1
end

theorem led_list {h₀ h : Heap} {L D : Addr} {news : List (Addr × Obj)} {ys : Array Value} {n : Nat} (N : News h₀ L h news) (hm : (D, listOf ys n) ∈ news) : h.IsList D ys := ⟨_, (N _ hm).1, rfl, n, rfl⟩
section
variable {prog : Program} {w : World} {A : Around} {E : Value → Shared → Prop} {s : Shared} {h₀ : Heap} {L r : Addr} {news : List (Addr × Obj)} {ys : Array Value} {n : Nat} {Q : Value → Shared → Prop}
theorem len_led (N : News h₀ L s.heap news) (hm : (r, listOf ys n) ∈ news) (hs : ys.size ≤ 1000) (h : Q (.int ys.size (s.toks + 1)) { s with toks := s.toks + 1 + 1 }) : wpAny (model prog w) A (call (.builtin "len") [.ref r]) Q E s :=
  len_list (led_list N hm) (by omega) h
end

section
variable {M : Model} {A : Around} {E : Value → Shared → Prop} {s' : Shared} {base g g₂ : Heap} {outer : List Env} {L a e : Addr} {m : Str → Option Value} {name : Str} {scope : Scope} {cd : Value} {cl : List (Str × Addr)} {Q : Unit → Shared → Prop} {news : List (Addr × Obj)}
theorem leave_onSNX {cls : Value} (K : Below A base outer g) (F : Fr g L g₂ m) (R : RaisedSN base g₂ (envX name scope L a cd cl :: outer) e cls news s'.heap) (hsm : g₂.UpToSlots s'.heap)
    (hQ : ∀ h', RaisedSN base g outer e cls news h' → RaisedN base outer e cls news h' → g.UpToSlots h' → Q () { s' with heap := h' }) :
    wpAny M (A.deeper (envX name scope L a cd cl)) (leaving (envX name scope L a cd cl) (.ref e)) Q E s' := by
  obtain ⟨B, a0, hB, hBG, hl, hfl⟩ := R
  refine wpAny_leaves_onW (Around.frames_deeper K.stack) rfl hfl fun h' x1 x2 => ?_
  have R' : RaisedSN base g outer e cls news h' := by
    refine ⟨B, a0, hB, fun b o q nm => hBG b o (F.keep b o q) fun hm => ?_, fun q hq => ⟨(hl q hq).1, kts_none F.keep (hl q hq).2.1, (hl q hq).2.2⟩, x1⟩
    rcases List.mem_cons.mp (show b ∈ L :: outer.filterMap (·.frame) from hm) with z | z
    · rw [z, kts_self F] at q
      cases q
    · exact nm z
  exact hQ h' R' R'.toN ((Heap.UpToSlots.of_keeps F.keep).trans (hsm.trans x2))
end
/-- a turn of the table's list by a call that may have caught: the frame at L may have other slots -/
def TurnQ (s : Shared) (r L : Addr) (rs' : List (Str × Str)) (P : Value → Prop) (v : Value) (s' : Shared) : Prop :=
  P v ∧ ∃ h' tk vs' n', s' = { s with heap := h', toks := tk } ∧ (∀ b o, b ≠ r → b ≠ L → s.heap.get? b = some o → h'.get? b = some o) ∧ (∀ o, s.heap.get? L = some o → ∃ sl, h'.get? L = some { o with slots := sl }) ∧ h'.get? r = some (listOf vs'.toArray n') ∧ Rows h' vs' rs' ∧ vs'.length ≤ 101
theorem doneQ {s : Shared} {r L : Addr} {g g' h' : Heap} {tk : Nat} {rs' : List (Str × Str)} {P : Value → Prop} {v : Value} {vs' : List Value} {ys : Array Value} {n' : Nat}
    (keep : ∀ b o, s.heap.get? b = some o → b ≠ r → g.get? b = some o) (hne : L ≠ r) (T : KtsTurn [L] g g') (k : ∀ b o, g'.get? b = some o → h'.get? b = some o) (hr : h'.get? r = some (listOf ys n')) (hy : ys = vs'.toArray) (R : Rows h' vs' rs') (hl : vs'.length ≤ 101) (hp : P v) :
    TurnQ s r L rs' P v { s with heap := h', toks := tk } := by
  subst hy
  refine ⟨hp, h', tk, vs', n', rfl, fun b o hb hL e => k _ _ (T.other b o (keep b o e hb) fun q => hL (List.mem_singleton.mp q)), fun o e => ?_, hr, R, hl⟩
  obtain ⟨sl, z⟩ := T.frame L o (keep L o e hne) (List.mem_singleton.mpr rfl)
  exact ⟨sl, k _ _ z⟩
theorem rowsTurn {g g' h' : Heap} {L : Addr} {vs : List Value} {rs : List (Str × Str)} (R : Rows g vs rs) (D : KtsDicts [L] g) (T : KtsTurn [L] g g') (k : ∀ b o, g'.get? b = some o → h'.get? b = some o) : Rows h' vs rs :=
  PySem.Paired.mono (fun _ _ y => by
    obtain ⟨a, t1, t2, e, ⟨o, ho, hc, rest⟩, b⟩ := y
    refine ⟨a, t1, t2, e, ⟨o, k _ _ (T.other a o ho fun q => ?_), hc, rest⟩, b⟩
    have q := List.mem_singleton.mp q
    obtain ⟨o', es, n, ho', hd⟩ := D L (List.mem_singleton.mpr rfl)
    rw [← q, ho] at ho'
    cases ho'
    obtain ⟨n', rest⟩ := rest
    rw [hd] at rest
    cases rest) R
theorem paired_push {R : Value → (Str × Str) → Prop} {vs : List Value} {rs : List (Str × Str)} {v : Value} {q : Str × Str} (h : PySem.Paired R vs rs) (hv : R v q) : PySem.Paired R (vs ++ [v]) (rs ++ [q]) := by
  induction h with
  | nil => exact .cons hv .nil
  | cons a _ ih => exact .cons a ih
theorem rowsPush {h' : Heap} {vs : List Value} {rs : List (Str × Str)} {D : Addr} {nm wd : Str} {t1 t2 : Tok} (R : Rows h' vs rs) (hD : h'.get? D = some { cls := .type "tuple", data := .seq #[.str nm t1, .str wd t2] }) (h1 : nm.length ≤ 100) (h2 : wd.length ≤ 100) : Rows h' (vs ++ [.ref D]) (rs ++ [(nm, wd)]) :=
  paired_push R ⟨D, t1, t2, rfl, ⟨_, hD, rfl, _, rfl⟩, h1, h2⟩
theorem rows_le {h : Heap} {vs vs' : List Value} {rs : List (Str × Str)} {p : Str × Str → Bool} (R : Rows h vs rs) {g : Heap} (R' : Rows g vs' (rs.filter p)) (hl : vs.length ≤ 100) : vs'.length ≤ 100 := by
  have e1 := R'.length
  have e2 : (rs.filter p).length ≤ rs.length := List.length_filter_le _ _
  have e3 := R.length
  omega
section
variable {M : Model} {A : Around} {E : Value → Shared → Prop} {s : Shared} {h₀ : Heap} {L : Addr} {m : Str → Option Value} {news : List (Addr × Obj)} {g : Obj → List (Addr × Obj)} {r : Addr} {o : Obj}
theorem turnQ_K {t : Sem Value} {rs' : List (Str × Str)} {P : Value → Prop} {Q : Value → Shared → Prop} (h : wpAny M A t (TurnQ s r L rs' P) E s) (F : Fr h₀ L s.heap m) (N : News h₀ L s.heap news) (U : UpdF r o news g)
    (hc : ∀ v h' tk vs' n', P v → Rows h' vs' rs' → vs'.length ≤ 101 → Fr h₀ L h' m → News h₀ L h' (g (listOf vs'.toArray n')) → Q v { s with heap := h', toks := tk }) : wpAny M A t Q E s :=
  wpAny_mono h (fun v s' z => by
    obtain ⟨p, h', tk, vs', n', rfl, k, kL, hr, R, hz⟩ := z
    obtain ⟨pre, post, rfl, hg, h1, h2⟩ := U.split
    have nr := N (r, o) (List.mem_append_right _ (.head _))
    have lN : ∀ b ob, h₀.get? b = some ob → b ≠ L := fun b ob e q => Nat.lt_irrefl _ (Nat.lt_of_lt_of_le (q ▸ Heap.lt_size e) F.above)
    refine hc v h' tk vs' n' p R hz ⟨?_, fun b ob e => k b ob (fun q => ?_) (lN b ob e) (F.keep b ob e), F.above⟩ ?_
    · obtain ⟨oL, es, ep, hL, hLd, rest⟩ := F.ns
      obtain ⟨sl, z⟩ := kL _ hL
      exact ⟨_, es, ep, z, hLd, rest⟩
    · have := nr.2.2
      rw [← q, e] at this
      cases this
    · rw [hg]
      intro p hp
      rcases List.mem_append.mp hp with hp | hp
      · have z := N p (List.mem_append_left _ hp)
        exact ⟨k _ _ (h1 p hp) z.2.1 z.1, z.2⟩
      · rcases List.mem_cons.mp hp with rfl | hp
        · exact ⟨hr, nr.2⟩
        · have z := N p (List.mem_append_right _ (List.Mem.tail _ hp))
          exact ⟨k _ _ (h2 p hp) z.2.1 z.1, z.2⟩) fun _ _ e => e
end
end
section
local macro_rules | `(tactic| walk_at "getMethod ref") => `(tactic| (k_here; (with_reducible show wpAny _ _ (getMethod (Value.ref _) (PySem.Str.ofString "search") _) _ _ _); (first
  | refine getSearch (pat105 (Frag.In.keeps (by k_asm) (Fr.keep (by k_asm)))) ?_ | refine getSearch (pat110 (Frag.In.keeps (by k_asm) (Fr.keep (by k_asm)))) ?_)))
local macro_rules | `(tactic| walk_at "call builtin:re.Pattern.search") => `(tactic| (k_here; (first
  | refine search_no (pat105 (Frag.In.keeps (by k_asm) (Fr.keep (by k_asm)))) ?_ (by assumption) ?_ | refine search_no (pat110 (Frag.In.keeps (by k_asm) (Fr.keep (by k_asm)))) ?_ (by assumption) ?_)))

section
theorem resetConv : True := by w_top off; trivial
theorem conv_ok {prog : Program} {w : World} {A : Around} {s : Shared} {loose : List Str} {mean : ExcName → Option Value} {mg mb : Str → Option Value} {b : Bool} {x : Str} {t : Tok} {x0 : Addr}
    (X : (hd.heap_1 w.params).In s.heap) (T : Top vwP loose mean mg mb s.heap) (hroom : A.depth + 2 < recursionLimit)
    (hl : x.length ≤ 1000) (h1 : b = true → hits code105 x = some false) (h2 : b = false → hits code110 x = some false) {E : Value → Shared → Prop} :
    wpAny (model prog w) A (call (.ref 140) [.ref x0, .str x t] [(Str.ofString "name", .bool b)]) (fun v s' => v = .str x t ∧ PySem.Keeps s s') E s := by
  refine wpAny_call ?_
  k_dflt (refine' callP X T.nolimit ?k6 ?k7 ?k8 ?k9 ?kB ?_ ?c5 ?c2 ?c3 ?c4; (case k6 => k_is); (case k7 => k_is); (case k8 => omega); (case k9 => exact BindsTo.of_eq rfl); (case c5 => decide); (case kB => exact locs rfl); (case c2 => exact rfl); (case c3 => exact rfl); (case c4 => exact rfl))
  intro h1 F1
  have N1 : News s.heap s.heap.objs.size h1 [] := News.nil
  cases b
  · replace h2 := h2 rfl
    k_steps
    all_goals exact ⟨_, _, rfl, fun b o e => Fr.keep (by assumption) b o e⟩
  · replace h1 := h1 rfl
    k_steps
    all_goals exact ⟨_, _, rfl, fun b o e => Fr.keep (by assumption) b o e⟩
end
section
local macro_rules | `(tactic| k_inst) => `(tactic| exact tbl_inst (Fr.keep (by assumption) _ _ (by assumption)) (Fr.keep (by assumption) _ _ (by assumption)))
local macro_rules | `(tactic| walk_at "delItem ref") => `(tactic| (k_here; k_dflt (refine' delItem_K ?k1 ?k2 ?k3 ?k4 ?k5 ?k6 ?_; (case k1 => k_asm); (case k2 => k_asm); (case k3 => k_inst); (case k4 => k_is); (case k5 => k_is); (case k6 => k_is); k_whole)))
section
local macro_rules | `(tactic| walk_at "call ref") => `(tactic| (k_here; (with_reducible show wpAny _ _ (call (Value.ref 140) _ _) _ _ _); k_dflt (refine' pure_K (conv_ok (Frag.In.keeps ?X (Fr.keep ?F1)) (Top.keeps ?T (Fr.keep ?F2)) ?r ?l ?a ?b) ?F ?N ?_; (case X => k_asm); (case T => k_asm); (case F1 => k_asm); (case F2 => k_asm); (case F => k_asm); (case N => k_asm); (case r => ktr_room); (case l => omega); (case a => first | (intro _; assumption) | (intro h; cases h)); (case b => first | (intro _; assumption) | (intro h; cases h)); k_whole); intro v' h' tk' e' kp' F' N'; subst e'; (try k_sweep)))
local macro_rules | `(tactic| walk_at "eval Name") => `(tactic| (k_here; k_dflt (first
  | (refine' cname_L ?F ?v ?_ ?L ?a ?b ?d; (case F => k_asm); (case L => rfl); (case a => rfl); (case b => rfl); (case d => decide); (case v => first | assumption | rfl); k_whole)
  | (refine' cname_C ?F ?c ?o ?d ?_ ?a ?b ?e; (case F => k_asm); (case c => rfl); (case a => rfl); (case b => rfl); (case e => decide); (case o => assumption); (case d => assumption); k_whole))))
local macro_rules | `(tactic| walk_at "setItem ref ref ref") => `(tactic| (k_here; k_dflt (refine' setAllP_K ?F ?N ?U ?D ?ne ?x ?y ?_; (case F => k_asm); (case N => k_asm); (case U => k_updF); (case D => assumption); (case ne => assumption); (case x => assumption); (case y => assumption)); intro h' n' F' N'; (try dsimp only at N'); (try k_sweep)))
local macro_rules | `(tactic| walk_at "subscriptTail") => `(tactic| (k_here; (with_reducible show wpAny _ _ (subscriptTail _ _ (Value.ref _) (Value.int _ _)) _ _ _); k_dflt (first
  | (refine' menu6 ?N ?m ?a ?b ?B ?_ ?s; (case N => k_asm); (case m => k_mem); (case B => decide +kernel); (case a => first | assumption | exact fm_lo _ (by decide)); (case b => first | assumption | exact fm_hi _ (by decide) | omega); (case s => with_unfolding_all rfl))
  | (refine' menu3 ?N ?m ?a ?b ?B ?_ ?s; (case N => k_asm); (case m => k_mem); (case B => decide +kernel); (case a => first | assumption | exact fm_lo _ (by decide)); (case b => first | assumption | exact fm_hi _ (by decide) | omega); (case s => with_unfolding_all rfl))
  | (refine' menu2 ?N ?m ?a ?b ?B ?_ ?s; (case N => k_asm); (case m => k_mem); (case B => decide +kernel); (case a => first | assumption | exact fm_lo _ (by decide)); (case b => first | assumption | exact fm_hi _ (by decide) | omega); (case s => with_unfolding_all rfl))); intro tk8 hl8))

section
theorem resetTitle : True := by w_top off; trivial

theorem title_ok {prog : Program} {w : World} {A : Around} {s : Shared} {loose : List Str} {mean : ExcName → Option Value} {mg mb : Str → Option Value} {E : Value → Shared → Prop}
    (X : (hd.heap_1 w.params).In s.heap) (T : Top vwP loose mean mg mb s.heap) (hh : A.handled = none) (hroom : A.depth + 4 < recursionLimit) {g b : Int} {tg tb : Tok} (hg0 : 0 ≤ g) (hg1 : g < 3) :
    wpAny (model prog w) A (call (.ref 250) [.int g tg, .int b tb]) (PK s fun _ v => ∃ tk, v = .str (tl g b) tk) E s := by
  refine wpAny_call ?_
  k_dflt (refine' callP X T.nolimit ?k6 ?k7 ?k8 ?k9 ?kB ?_ ?c5 ?c2 ?c3 ?c4; (case k6 => k_is); (case k7 => k_is); (case k8 => omega); (case k9 => exact BindsTo.of_eq rfl); (case c5 => decide); (case kB => exact locs rfl); (case c2 => exact rfl); (case c3 => exact rfl); (case c4 => exact rfl))
  intro h1 F1
  have N1 : News s.heap s.heap.objs.size h1 [] := News.nil
  k_steps
  all_goals exact PK.of (by assumption) ⟨_, by simp only [tl, small]; first | (rw [if_pos (by assumption)]; done) | (rw [if_neg (by assumption)])⟩
end

section
theorem resetThing : True := by w_top off; trivial

theorem thing_ok {prog : Program} {w : World} {A : Around} {s : Shared} {loose : List Str} {mean : ExcName → Option Value} {mg mb : Str → Option Value} {E : Value → Shared → Prop}
    (X : (hd.heap_1 w.params).In s.heap) (T : Top vwP loose mean mg mb s.heap) (hh : A.handled = none) (hroom : A.depth + 4 < recursionLimit) {z : Int} {tz : Tok} (hz0 : 0 ≤ z) (hz1 : z < 1000000000) :
    wpAny (model prog w) A (call (.ref 257) [.int z tz]) (PK s fun h v => ThAt h v (thingOf z)) E s := by
  refine wpAny_call ?_
  k_dflt (refine' callP X T.nolimit ?k6 ?k7 ?k8 ?k9 ?kB ?_ ?c5 ?c2 ?c3 ?c4; (case k6 => k_is); (case k7 => k_is); (case k8 => omega); (case k9 => exact BindsTo.of_eq rfl); (case c5 => decide); (case kB => exact locs rfl); (case c2 => exact rfl); (case c3 => exact rfl); (case c4 => exact rfl))
  intro h1 F1
  have N1 : News s.heap s.heap.objs.size h1 [] := News.nil
  have hz4 := fm_hi z (b := 4) (by decide)
  have hz4' := fm_lo z (b := 4) (by decide)
  k_steps
  · (rename News _ _ _ _ => N9)
    refine PK.of (by assumption) ⟨_, rfl, ?_⟩
    have e : thingOf z = ⟨none, txtM (Int.fmod (Int.fdiv z 4) 6)⟩ := by
      unfold thingOf thOf
      rw [if_pos (by assumption)]
    rw [e]
    exact ⟨_, ⟨_, (N9 _ (List.Mem.head _)).1, rfl, _, rfl⟩⟩
  · (rename News _ _ _ _ => N9)
    refine PK.of (by assumption) ⟨_, rfl, ?_⟩
    have e : thingOf z = ⟨some (pick2 (Int.fmod (Int.fdiv z 24) 2) (Str.ofString "utf-8") (Str.ofString ""), pick3 (Int.fmod z 4) (Str.ofString "en") (Str.ofString "de") (Str.ofString "")), txtM (Int.fmod (Int.fdiv z 4) 6) ++ Txt.mul (Str.ofString "'") (Int.fmod (Int.fdiv z 48) 3)⟩ := by
      unfold thingOf thOf
      rw [if_neg (by assumption)]
    rw [e]
    exact ⟨_, _, _, ⟨_, (N9 _ (List.Mem.head _)).1, rfl, _, rfl⟩⟩
end

section
theorem resetWritten : True := by w_top off; trivial

theorem written_ok {prog : Program} {w : World} {A : Around} {s : Shared} {loose : List Str} {mean : ExcName → Option Value} {mg mb : Str → Option Value} {E : Value → Shared → Prop}
    (X : (hd.heap_1 w.params).In s.heap) (T : Top vwP loose mean mg mb s.heap) (hh : A.handled = none) (hroom : A.depth + 4 < recursionLimit) {v : Value} {t : Th} (ht : ThAt s.heap v t) (hs : t.short) :
    wpAny (model prog w) A (call (.ref 264) [v]) (PK s fun _ v => ∃ tk, v = .str (wr t) tk) E s := by
  obtain ⟨a, rfl, ht⟩ := ht
  obtain ⟨hd, tx⟩ := t
  obtain ⟨hs1, hs2⟩ := hs
  refine wpAny_call ?_
  k_dflt (refine' callP X T.nolimit ?k6 ?k7 ?k8 ?k9 ?kB ?_ ?c5 ?c2 ?c3 ?c4; (case k6 => k_is); (case k7 => k_is); (case k8 => omega); (case k9 => exact BindsTo.of_eq rfl); (case c5 => decide); (case kB => exact locs rfl); (case c2 => exact rfl); (case c3 => exact rfl); (case c4 => exact rfl))
  intro h1 F1
  have N1 : News s.heap s.heap.objs.size h1 [] := News.nil
  cases hd with
  | none =>
    obtain ⟨t1, i⟩ := ht
    k_steps
    exact PK.of (by assumption) ⟨_, rfl⟩
  | some p =>
    obtain ⟨t1, t2, t3, i⟩ := ht
    obtain ⟨hl1, hl2⟩ := hs2 _ rfl
    dsimp only at hs1 hl1 hl2
    k_steps
    exact PK.of (by assumption) ⟨_, rfl⟩
end
section
local macro_rules | `(tactic| walk_at "assign Tuple") => `(tactic| (k_here; k_dflt (refine' assign2_K ?h ?F ?N ?t ?L ?a ?b ?p ?_; (case h => assumption); (case F => k_asm); (case N => k_asm); (case L => rfl); (case a => rfl); (case b => rfl); (case p => rfl); (case t => first | assumption | exact IsTup.keeps (by assumption) (Fr.keep (by k_asm)))); intro h' tk' F' N'; (try k_sweep)))
section
local macro_rules | `(tactic| walk_at "exec For") => `(tactic| (k_here; k_dflt (refine' forG ?h ?F ?_ ?s; (case h => assumption); (case F => k_asm); (case s => intro _; rfl))))

section
theorem resetDel : True := by w_top off; trivial

theorem del_ok {prog : Program} {w : World} {A : Around} {s : Shared} {hb hq : Heap} {loose : List Str} {mean : ExcName → Option Value} {mg mb : Str → Option Value} {nm : Str} {t : Tok} {x dx r : Addr} {hsh : Int} {ktk : Tok} {vs : List Value} {n : Nat} {rs : List (Str × Str)} {E : Value → Shared → Prop}
    (X : (hd.heap_1 w.params).In hb) (T : Top vwP loose mean mg mb hb) (kb : ∀ b o, hb.get? b = some o → s.heap.get? b = some o) (hr0 : hb.get? r = none) (hroom : A.depth + 4 < recursionLimit) (hh : A.handled = none)
    (kq : ∀ b o, hq.get? b = some o → s.heap.get? b = some o) (hx : hq.get? x = some (instObj 239 dx)) (hdx : hq.get? dx = some (dictOf [⟨hsh, .str (Str.ofString "_headers") ktk, .ref r⟩] 1)) (hr : s.heap.get? r = some (listOf vs.toArray n))
    (hrs : Rows hq vs rs) (hvs : vs.length ≤ 100) (hl : nm.length ≤ 100) (h1 : hits code105 (Txt.lower nm) = some false) :
    wpAny (model prog w) A (call (.ref 159) [.ref x, .str nm t]) (TurnP s r hq (rs.filter fun q => decide (Txt.lower q.1 ≠ Txt.lower nm)) (· = .none)) E s := by
  refine wpAny_call ?_
  k_dflt (refine' callNC (news := [(r, listOf vs.toArray n)]) (X.keeps kb) (T.nolimit.keeps kb) ?N0 ?k6 ?k7 ?k8 ?k9 ?kB ?kD ?_ ?c2 ?c3 ?c4; (case N0 => intro p hp; rw [List.mem_singleton.mp hp]; exact hr); (case k6 => k_is); (case k7 => k_is); (case k8 => omega); (case k9 => exact BindsTo.of_eq rfl); (case kB => exact rfl); (case kD => decide +kernel); (case c2 => exact rfl); (case c3 => exact rfl); (case c4 => exact rfl))
  intro g h1 tk cells keep back F1 N1 Y hlt
  replace keep := keep_one keep
  have kg := base_in kb hr0 keep
  replace X := X.keeps kg
  replace T := T.keeps kg
  replace hx := keep _ _ (kq _ _ hx) (obj_ne (kq _ _ hx) hr (show Value.ref 239 ≠ Value.type "list" by decide))
  replace hdx := keep _ _ (kq _ _ hdx) (obj_ne (kq _ _ hdx) hr (show Value.type "dict" ≠ Value.type "list" by decide))
  have hlr : @LT.lt Nat _ r s.heap.objs.size := hlt _ List.mem_cons_self
  k_cells Y
  simp only [List.cons_append, List.nil_append] at N1
  k_steps
  (rename News _ _ _ _ => N2)
  (rename Fr _ _ _ _ => F2)
  try simp only [List.nil_append] at N2
  have hc2 := (N2 _ (List.Mem.head _)).1
  have hr2 := (N2 _ (List.Mem.tail _ (List.Mem.head _))).1
  k_dflt (refine' evalCompG (P := RowAt hq) (p := fun q => decide (Txt.lower q.1 ≠ Txt.lower nm)) (G := fun _ y q => RowAt hq y q) (fun _ _ _ _ _ z => z) ?h0 ?h1 ?h2 ?h3 ?h4 ?h5 ?_ ?h6; (case h0 => exact hh); (case h1 => exact rfl); (case h2 => decide); (case h3 => exact rfl); (case h4 => decide); (case h5 => exact rfl); (case h6 => intro _; rfl))
  walk1
  walk1
  walk1
  refine ⟨r, vs, rs, rfl, ⟨_, hr2, rfl, n, rfl⟩, hrs, Nat.le_trans hvs (by decide), ?_, ?_, ?_⟩
  · intro C v q h3 tk3 m3 l3 E3 hC hP F3 hm N3
    obtain ⟨a3, u1, u2, rfl, i3, hb1, hb2⟩ := (RowAt.keeps hP kq).hide hr keep
    have i3' := i3.keeps F2.keep
    refine wpAny_tests_one ?_
    k_steps
    exact ⟨_, _, [], rfl, by assumption, by assumption, fun _ h => (nomatch h), bne_dec _ _⟩
  · intro C v q h3 tk3 m3 l3 E3 hC hP hp F3 hm N3
    have hP3 := hP
    k_steps
    exact ⟨_, _, [], rfl, F3, N3, fun _ h => (nomatch h), hP3⟩
  · intro D h3 tk3 ys n3 tl hD hgD hk3 htl hys
    have F3 := F2.keeps hk3
    have N3 := News.addK F2 N2 hk3 hD hgD
    have hDl : h3.IsList D ys.toArray := ⟨_, hgD, rfl, n3, rfl⟩
    have hDr : r ≠ D := by rintro rfl; rw [hr2] at hD; cases hD
    have hDr2 : @Ne Nat D r := fun q => hDr q.symm
    have hvs' : vs.toArray.size ≤ 1000 := Nat.le_trans hvs (by decide)
    have hys'' : ys.length ≤ 101 := by
      have e1 := hys.length
      have e2 : (rs.filter fun q => decide (Txt.lower q.1 ≠ Txt.lower nm)).length ≤ rs.length := List.length_filter_le _ _
      have e3 := hrs.length
      omega
    have hys' : ys.toArray.size ≤ 1000 := by
      have e1 := hys.length
      have e2 : (rs.filter fun q => decide (Txt.lower q.1 ≠ Txt.lower nm)).length ≤ rs.length := List.length_filter_le _ _
      have e3 := hrs.length
      show ys.length ≤ 1000
      omega
    clear hk3 F2 N2 htl
    k_steps
    (rename News _ _ _ _ => N4)
    (rename Fr _ _ _ _ => F4)
    exact ⟨rfl, _, _, ys, _, rfl, fun b o hbr e => F4.keep b o (keep b o e hbr), (N4 (r, _) (by k_mem)).1, hys, hys''⟩
end

section
theorem resetGet : True := by w_top off; trivial

theorem get_ok {prog : Program} {w : World} {A : Around} {s : Shared} {loose : List Str} {mean : ExcName → Option Value} {mg mb : Str → Option Value} {E : Value → Shared → Prop}
    (X : (hd.heap_1 w.params).In s.heap) (T : Top vwP loose mean mg mb s.heap) (hh : A.handled = none) (hroom : A.depth + 4 < recursionLimit){x dx r : Addr} {hsh : Int} {ktk : Tok} {vs : List Value} {n : Nat} {rs : List (Str × Str)} (hx : s.heap.get? x = some (instObj 239 dx)) (hdx : s.heap.get? dx = some (dictOf [⟨hsh, .str (Str.ofString "_headers") ktk, .ref r⟩] 1)) (hr : s.heap.get? r = some (listOf vs.toArray n))
    (hrs : Rows s.heap vs rs) (hvs : vs.length ≤ 100) {nm : Str} {t : Tok} (hl : nm.length ≤ 100) (h1 : hits code105 (Txt.lower nm) = some false) :
    wpAny (model prog w) A (call (.ref 186) [.ref x, .str nm t]) (PK s fun _ v => GetIs rs (Txt.lower nm) v) E s := by
  refine wpAny_call ?_
  k_dflt (refine' callP X T.nolimit ?k6 ?k7 ?k8 ?k9 ?kB ?_ ?c5 ?c2 ?c3 ?c4; (case k6 => k_is); (case k7 => k_is); (case k8 => omega); (case k9 => first | exact BindsTo.of_eq rfl | exact binds_K (by k_in) rfl (by k_is) rfl rfl rfl); (case c5 => decide); (case kB => exact locs rfl); (case c2 => exact rfl); (case c3 => exact rfl); (case c4 => exact rfl))
  intro h1 F1
  have N1 : News s.heap s.heap.objs.size h1 [] := News.nil
  k_steps
  refine ⟨r, vs, _, [], fun i m led => led = [] ∧ (∃ tk0, m (Str.ofString "name") = some (.str (Txt.lower nm) tk0)) ∧ m (Str.ofString "default") = some .none ∧ (rs.take i).find? (fun q => decide (Txt.lower q.1 = Txt.lower nm)) = none, rfl, by assumption, by assumption, ⟨rfl, ⟨_, rfl⟩, rfl, by simp⟩, fun i m led h _ F3 _ => ⟨_, F3.keep _ _ hr, rfl, n, rfl⟩, ?_, ?_⟩
  · rintro I i v m3 led h3 tk3 oI E3 hv ⟨rfl, ⟨tk0, hm1⟩, hm2, hno⟩ F3 N3 hoff
    obtain ⟨q, hq, a3, u1, u2, rfl, i3, hb1, hb2⟩ := Paired.at hrs hv
    k_steps
    · dsimp only [TurnEnd]
      refine PK.of (by assumption) ?_
      show GetIs _ _ _
      unfold GetIs
      rw [find_at hno hq ((beq_dec _ _).symm.trans (by assumption))]
      exact ⟨_, rfl⟩
    · refine ⟨_, _, _, [], rfl, by assumption, by assumption, fun _ h => (nomatch h), rfl, ⟨tk0, ?_⟩, ?_, find_more hno hq ((beq_dec _ _).symm.trans (by first | assumption | exact Bool.eq_false_iff.mpr (by assumption)))⟩
      · rw [if_neg (by decide), if_neg (by decide)]; exact hm1
      · rw [if_neg (by decide), if_neg (by decide)]; exact hm2
  · rintro m3 led h3 tk3 E3 ⟨rfl, ⟨tk0, hm1⟩, hm2, hno⟩ F3 N3
    k_steps
    refine PK.of (by assumption) ?_
    show GetIs _ _ _
    unfold GetIs
    rw [hrs.length, List.take_length] at hno
    rw [hno]

theorem get_q {prog : Program} {w : World} {A : Around} {s : Shared} {hb hq : Heap} {loose : List Str} {mean : ExcName → Option Value} {mg mb : Str → Option Value} {E : Value → Shared → Prop} {x dx r : Addr} {hsh : Int} {ktk : Tok} {vs : List Value} {n : Nat} {rs : List (Str × Str)} {nm : Str} {t : Tok}
    (X : (hd.heap_1 w.params).In hb) (T : Top vwP loose mean mg mb hb) (kb : ∀ b o, hb.get? b = some o → s.heap.get? b = some o) (hh : A.handled = none) (hroom : A.depth + 4 < recursionLimit)
    (kq : ∀ b o, hq.get? b = some o → s.heap.get? b = some o) (hx : hq.get? x = some (instObj 239 dx)) (hdx : hq.get? dx = some (dictOf [⟨hsh, .str (Str.ofString "_headers") ktk, .ref r⟩] 1)) (hr : s.heap.get? r = some (listOf vs.toArray n))
    (hrs : Rows hq vs rs) (hvs : vs.length ≤ 100) (hl : nm.length ≤ 100) (h1 : hits code105 (Txt.lower nm) = some false) :
    wpAny (model prog w) A (call (.ref 186) [.ref x, .str nm t]) (PK s fun _ v => GetIs rs (Txt.lower nm) v) E s :=
  get_ok (X.keeps kb) (T.keeps kb) hh hroom (kq _ _ hx) (kq _ _ hdx) hr (hrs.keeps kq) hvs hl h1
end

section
theorem resetGetAll : True := by w_top off; trivial

def StrV (v : Value) (x : Str) : Prop := ∃ tk, v = .str x tk
theorem getall_ok {prog : Program} {w : World} {A : Around} {s : Shared} {loose : List Str} {mean : ExcName → Option Value} {mg mb : Str → Option Value} {nm : Str} {t : Tok} {x dx r : Addr} {hsh : Int} {ktk : Tok} {vs : List Value} {n : Nat} {rs : List (Str × Str)} {E : Value → Shared → Prop}
    (X : (hd.heap_1 w.params).In s.heap) (T : Top vwP loose mean mg mb s.heap) (hroom : A.depth + 4 < recursionLimit) (hh : A.handled = none)
    (hx : s.heap.get? x = some (instObj 239 dx)) (hdx : s.heap.get? dx = some (dictOf [⟨hsh, .str (Str.ofString "_headers") ktk, .ref r⟩] 1)) (hr : s.heap.get? r = some (listOf vs.toArray n))
    (hrs : Rows s.heap vs rs) (hvs : vs.length ≤ 100) (hl : nm.length ≤ 100) (h1 : hits code105 (Txt.lower nm) = some false) :
    wpAny (model prog w) A (call (.ref 178) [.ref x, .str nm t]) (PK s fun h v => ∃ a us, v = .ref a ∧ h.IsList a us.toArray ∧ PySem.Paired (fun y (q : Str × Str) => StrV y q.2) us (rs.filter fun q => decide (Txt.lower q.1 = Txt.lower nm))) E s := by
  refine wpAny_call ?_
  k_dflt (refine' callNC (news := []) X T.nolimit ?N0 ?k6 ?k7 ?k8 ?k9 ?kB ?kD ?_ ?c2 ?c3 ?c4; (case N0 => intro p hp; cases hp); (case k6 => k_is); (case k7 => k_is); (case k8 => omega); (case k9 => exact BindsTo.of_eq rfl); (case kB => exact rfl); (case kD => decide +kernel); (case c2 => exact rfl); (case c3 => exact rfl); (case c4 => exact rfl))
  intro g h1 tk cells keep back F1 N1 Y hlt
  have kg : ∀ b o, s.heap.get? b = some o → g.get? b = some o := fun b o q => keep b o q fun _ hp => nomatch hp
  replace X := X.keeps kg
  replace T := T.keeps kg
  replace hx := kg _ _ hx
  replace hdx := kg _ _ hdx
  replace hr := kg _ _ hr
  replace hrs := hrs.keeps kg
  k_cells Y
  simp only [List.cons_append, List.nil_append] at N1
  k_steps
  (rename News _ _ _ _ => N2)
  (rename Fr _ _ _ _ => F2)
  try simp only [List.nil_append] at N2
  have hc2 := (N2 _ (List.Mem.head _)).1
  (with_reducible refine' evalCompG (P := RowAt g) (p := fun q => decide (Txt.lower q.1 = Txt.lower nm)) (G := fun _ y q => StrV y q.2) (fun _ _ _ _ _ z => z) ?h0 ?h1 ?h2 ?h3 ?h4 ?h5 ?_ ?h6); (case h0 => exact hh); (case h1 => with_unfolding_all rfl); (case h2 => decide); (case h3 => with_unfolding_all rfl); (case h4 => decide); (case h5 => with_unfolding_all rfl); (case h6 => intro _; with_unfolding_all rfl)
  walk1
  walk1
  walk1
  refine ⟨r, vs, rs, rfl, ⟨_, F2.keep _ _ hr, rfl, n, rfl⟩, hrs, Nat.le_trans hvs (by decide), ?_, ?_, ?_⟩
  · intro C v q h3 tk3 m3 l3 E3 hC hP F3 hm N3
    obtain ⟨a3, u1, u2, rfl, i3, hb1, hb2⟩ := hP
    have i3' := i3.keeps F2.keep
    refine wpAny_tests_one ?_
    k_steps
    exact ⟨_, _, [], rfl, by assumption, by assumption, fun _ h => (nomatch h), beq_dec _ _⟩
  · intro C v q h3 tk3 m3 l3 E3 hC hP hp F3 hm N3
    obtain ⟨a3, u1, u2, rfl, i3, hb1, hb2⟩ := hP
    have i3' := i3.keeps F2.keep
    k_steps
    exact ⟨_, _, [], rfl, by assumption, by assumption, fun _ h => (nomatch h), _, rfl⟩
  · intro D h3 tk3 ys n3 tl hD hgD hk3 htl hys
    have F3 := F2.keeps hk3
    have N3 := News.addK F2 N2 hk3 hD hgD
    clear hk3 F2 N2 htl
    k_steps
    exact ⟨⟨D, ys, rfl, ⟨_, (by assumption), rfl, n3, rfl⟩, hys⟩, _, _, rfl, fun b o e => F3.keep b o (kg b o e)⟩
end
section
local macro_rules | `(tactic| walk_at "call builtin:re.Pattern.search") => `(tactic| (k_here; k_dflt (first
  | (refine' search_yes (pat105 (Frag.In.keeps (by k_asm) (Fr.keep (by k_asm)))) ?l (by assumption) ?F ?N ?_; (case l => omega); (case F => k_asm); (case N => k_asm)) | (refine' search_yes (pat110 (Frag.In.keeps (by k_asm) (Fr.keep (by k_asm)))) ?l (by assumption) ?F ?N ?_; (case l => omega); (case F => k_asm); (case N => k_asm))); intro h' a' o' F' N' l1 hc' kp'; (try k_lt l1); (try k_sweep)))
local macro_rules | `(tactic| walk_at "truthy ref") => `(tactic| (k_here; k_dflt (refine' match_true ?o ?c ?_; (case o => exact News.get (by k_asm) (List.Mem.head _)); (case c => assumption))))
local macro_rules | `(tactic| k_inst) => `(tactic| exact tbl_inst (Fr.keep (by assumption) _ _ (Fr.keep (by assumption) _ _ (by assumption))) (Fr.keep (by assumption) _ _ (Fr.keep (by assumption) _ _ (by assumption))))
local macro_rules | `(tactic| k_inst) => `(tactic| exact tbl_inst (Fr.keep (by assumption) _ _ (Fr.keep (by assumption) _ _ (Fr.keep (by assumption) _ _ (by assumption)))) (Fr.keep (by assumption) _ _ (Fr.keep (by assumption) _ _ (Fr.keep (by assumption) _ _ (by assumption)))))
local macro_rules | `(tactic| k_inst) => `(tactic| exact tbl_inst (Fr.keep (by assumption) _ _ (Fr.keep (by assumption) _ _ (Fr.keep (by assumption) _ _ (Fr.keep (by assumption) _ _ (by assumption))))) (Fr.keep (by assumption) _ _ (Fr.keep (by assumption) _ _ (Fr.keep (by assumption) _ _ (Fr.keep (by assumption) _ _ (by assumption))))))
local macro_rules | `(tactic| walk_at "call ref") => `(tactic| (k_here; (with_reducible show wpAny _ _ (call (Value.ref 159) _ _) _ _ _); k_dflt (refine' turn_K (del_ok ?X ?T (Fr.keep ?F) ?r0 ?room ?hh ?kq ?hx ?hdx ?hr ?rs ?vs ?l ?h1) ?F2 ?N ?U ?_; (case X => k_asm); (case T => k_asm); (case F => k_asm); (case F2 => k_asm); (case N => k_asm); (case r0 => exact News.fresh (by k_asm) (by k_mem)); (case room => ktr_room); (case hh => first | assumption | rfl); (case hx => assumption); (case hdx => assumption); (case kq => first | exact Fr.keep (by k_asm) | exact fun b o e => Fr.keep (by k_asm) b o (Fr.keep (by assumption) b o e) | exact fun b o e => Fr.keep (by k_asm) b o (Fr.keep (by assumption) b o (Fr.keep (by assumption) b o e))); (case hr => exact News.get (by k_asm) (by k_mem)); (case rs => assumption); (case vs => assumption); (case l => first | assumption | decide); (case h1 => assumption); (case U => k_updF)); intro v' h' tk' vs' n' e' R' z' F' N'; subst e'; (try dsimp only at N'); (try k_sweep)))
local macro_rules | `(tactic| walk_at "call ref") => `(tactic| (k_here; (with_reducible show wpAny _ _ (call (Value.ref 186) _ _) _ _ _); k_dflt (refine' pk_K (get_q ?X ?T (Fr.keep ?F) ?hh ?room ?kq ?hx ?hdx ?hr ?rs ?vs ?l ?h1) ?F2 ?N ?_; (case X => k_asm); (case T => k_asm); (case F => k_asm); (case F2 => k_asm); (case N => k_asm); (case room => ktr_room); (case hh => first | assumption | rfl); (case hx => assumption); (case hdx => assumption); (case kq => first | exact Fr.keep (by k_asm) | exact fun b o e => Fr.keep (by k_asm) b o (Fr.keep (by assumption) b o e) | exact fun b o e => Fr.keep (by k_asm) b o (Fr.keep (by assumption) b o (Fr.keep (by assumption) b o e))); (case hr => first | exact News.get (by k_asm) (by k_mem) | exact Fr.keep (by k_asm) _ _ (by assumption)); (case rs => assumption); (case vs => assumption); (case l => first | assumption | decide); (case h1 => assumption); k_whole); intro v' h' tk' g' kp' F' N'; (try k_sweep)))
local macro_rules | `(tactic| walk_at "call builtin:len") => `(tactic| (k_here; (with_reducible show wpAny _ _ (call (Value.builtin "len") [Value.ref _]) _ _ _); k_dflt (refine' len_led ?N ?m ?s ?_; (case N => k_asm); (case m => k_mem); (case s => assumption); k_whole)))
section
local macro_rules | `(tactic| walk_at "inplaceOp Add ref") => `(tactic| (k_here; k_dflt (refine' iadd_K ?F ?N ?U ?D ?x ?y ?_; (case F => k_asm); (case N => k_asm); (case U => k_updF); (case D => exact led_list (by k_asm) (by k_mem)); (case x => assumption); (case y => decide); k_whole); intro h' n' F' N'; (try dsimp only at N'); (try k_sweep)))
local macro_rules | `(tactic| walk_at "delItem ref int") => `(tactic| (k_here; k_dflt (refine' del0_K ?F ?N ?U ?p ?x ?_; (case F => k_asm); (case N => k_asm); (case U => k_updF); (case p => assumption); (case x => assumption); k_whole); intro h' n' F' N'; (try dsimp only at N'); (try k_sweep)))

section
theorem resetK0 : True := by w_top off; trivial
-- 4-level

theorem do_0 {w : World} {loose : List Str} {mean : ExcName → Option Value} {mg mb : Str → Option Value}
  {dp un : Nat} {gd : Option (List Code)} {cn : Str} {cs : Scope} {a : Addr} {ccd : Value} {cl : List (Str × Addr)} {outer : List Env} {A₀ : Around} {base h₀ : Heap} {L : Addr} {m : Str → Option Value} {s : Shared} {E : Value → Shared → Prop}
    (B : Below A₀ base outer h₀) (F : Fr h₀ L s.heap m) (X : (hd.heap_1 w.params).In h₀) (T : Top vwP loose mean mg mb h₀) (hk : cs.kind = .function)
    {r x dx : Addr} {vs : List Value} {n : Nat} {hsh : Int} {ktk : Tok} {t1 t2 tk0 : Tok} {rs : List (Str × Str)} {nm wd : Str}
    (N : News h₀ L s.heap [(r, listOf vs.toArray n)]) (hx : s.heap.get? x = some (instObj 239 dx)) (hdx : s.heap.get? dx = some (dictOf [⟨hsh, .str (Str.ofString "_headers") ktk, .ref r⟩] 1))
    (hrs : Rows s.heap vs rs) (hvs : vs.length ≤ 100) (hnm : nm.length ≤ 20) (hwd : wd.length ≤ 100)
    (hd1 : dp + 40 < recursionLimit) (hu : un + 200 < cLine) (h1 : hits code105 nm = some false) (h2 : hits code105 (Txt.lower nm) = some false) (h3 : hits code110 wd = some false) :
      wpAny (model PySem.Challenge.rw_wf0067_01.row.prog w) (ktrTop dp un gd cn cs L a ccd cl outer) (call (.ref 271) [.ref x, .ref r, .int 0 tk0, .str nm t1, .str wd t2]) (TurnQ s r L ((rs.filter fun q => decide (Txt.lower q.1 ≠ Txt.lower nm)) ++ [(nm, wd)]) (· = .none)) E s := by
  have hr := (N _ (List.Mem.head _)).1
  refine wpAny_call ?_
  k_dflt (refine' callNB B F N ?kX ?kl ?kA ?kF ?kK ?k6 ?k7 ?k8 ?k9 ?kB ?_ ?c5 ?c2 ?c3 ?c4; (case kA => exact rfl); (case kF => exact rfl); (case kK => assumption); (case kX => exact X.keeps F.keep); (case kl => exact T.nolimit.keeps F.keep); (case k6 => k_is); (case k7 => k_is); (case k8 => ktr_room); (case k9 => exact BindsTo.of_eq rfl); (case c5 => decide); (case kB => exact locs rfl); (case c2 => exact rfl); (case c3 => exact rfl); (case c4 => exact rfl))
  intro g h1 keep back F1 N1 B1 hlt
  replace keep := keep_one keep
  have kg := base_in F.keep (News.fresh N (List.Mem.head _)) keep
  have X' := X.keeps kg
  have T' := T.keeps kg
  replace hx := keep _ _ hx (obj_ne hx hr (show Value.ref 239 ≠ Value.type "list" by decide))
  replace hdx := keep _ _ hdx (obj_ne hdx hr (show Value.type "dict" ≠ Value.type "list" by decide))
  replace hrs := hrs.hide hr keep
  have hlr : @LT.lt Nat _ r s.heap.objs.size := hlt _ List.mem_cons_self
  have hnm2 : nm.length ≤ 100 := by omega
  have hvs2 : vs.toArray.size ≤ 1000 := Nat.le_trans hvs (by decide)
  k_steps
  (try dsimp only)
  (rename News _ _ _ _ => N4)
  (try dsimp only at N4)
  have hr4 := (N4 (r, _) (by k_mem)).1
  have hLr : L ≠ r := Ne.symm (N _ (List.Mem.head _)).2.1
  have hD4 := (N4 _ (List.Mem.head _)).1
  (rename List Value => vs4)
  refine doneQ keep hLr .refl (Fr.keep (by assumption)) hr4 ?ze (rowsPush (vs := vs4) (Rows.keeps ?zR (Fr.keep (by assumption))) hD4 ?zl1 ?zl2) ?zl3 ?zp
  case zR => assumption
  case ze => simp
  case zl1 => omega
  case zl2 => omega
  case zp => first | rfl | trivial
  case zl3 => (have zq := rows_le hrs (show Rows g vs4 (rs.filter fun q => decide (Txt.lower q.1 ≠ Txt.lower nm)) by assumption) hvs; simp only [List.length_append, List.length_cons, List.length_nil]; omega)
end

section
theorem resetK1 : True := by w_top off; trivial
-- 4-level

theorem do_1 {w : World} {loose : List Str} {mean : ExcName → Option Value} {mg mb : Str → Option Value}
  {dp un : Nat} {gd : Option (List Code)} {cn : Str} {cs : Scope} {a : Addr} {ccd : Value} {cl : List (Str × Addr)} {outer : List Env} {A₀ : Around} {base h₀ : Heap} {L : Addr} {m : Str → Option Value} {s : Shared} {E : Value → Shared → Prop}
    (B : Below A₀ base outer h₀) (F : Fr h₀ L s.heap m) (X : (hd.heap_1 w.params).In h₀) (T : Top vwP loose mean mg mb h₀) (hk : cs.kind = .function)
    {r x dx : Addr} {vs : List Value} {n : Nat} {hsh : Int} {ktk : Tok} {t1 t2 tk0 : Tok} {rs : List (Str × Str)} {nm wd : Str}
    (N : News h₀ L s.heap [(r, listOf vs.toArray n)]) (hx : s.heap.get? x = some (instObj 239 dx)) (hdx : s.heap.get? dx = some (dictOf [⟨hsh, .str (Str.ofString "_headers") ktk, .ref r⟩] 1))
    (hrs : Rows s.heap vs rs) (hvs : vs.length ≤ 100) (hnm : nm.length ≤ 20) (hwd : wd.length ≤ 100)
    (hd1 : dp + 40 < recursionLimit) (hu : un + 200 < cLine) (h1 : hits code105 nm = some false) (h2 : hits code105 (Txt.lower nm) = some false) (h3 : hits code110 wd = some false) :
      wpAny (model PySem.Challenge.rw_wf0067_01.row.prog w) (ktrTop dp un gd cn cs L a ccd cl outer) (call (.ref 271) [.ref x, .ref r, .int 1 tk0, .str nm t1, .str wd t2]) (TurnQ s r L (rs ++ [(nm, wd)]) (· = .none)) E s := by
  have hr := (N _ (List.Mem.head _)).1
  refine wpAny_call ?_
  k_dflt (refine' callNB B F N ?kX ?kl ?kA ?kF ?kK ?k6 ?k7 ?k8 ?k9 ?kB ?_ ?c5 ?c2 ?c3 ?c4; (case kA => exact rfl); (case kF => exact rfl); (case kK => assumption); (case kX => exact X.keeps F.keep); (case kl => exact T.nolimit.keeps F.keep); (case k6 => k_is); (case k7 => k_is); (case k8 => ktr_room); (case k9 => exact BindsTo.of_eq rfl); (case c5 => decide); (case kB => exact locs rfl); (case c2 => exact rfl); (case c3 => exact rfl); (case c4 => exact rfl))
  intro g h1 keep back F1 N1 B1 hlt
  replace keep := keep_one keep
  have kg := base_in F.keep (News.fresh N (List.Mem.head _)) keep
  have X' := X.keeps kg
  have T' := T.keeps kg
  replace hx := keep _ _ hx (obj_ne hx hr (show Value.ref 239 ≠ Value.type "list" by decide))
  replace hdx := keep _ _ hdx (obj_ne hdx hr (show Value.type "dict" ≠ Value.type "list" by decide))
  replace hrs := hrs.hide hr keep
  have hlr : @LT.lt Nat _ r s.heap.objs.size := hlt _ List.mem_cons_self
  have hnm2 : nm.length ≤ 100 := by omega
  have hvs2 : vs.toArray.size ≤ 1000 := Nat.le_trans hvs (by decide)
  k_steps
  (try dsimp only)
  (rename News _ _ _ _ => N4)
  (try dsimp only at N4)
  have hr4 := (N4 (r, _) (by k_mem)).1
  have hLr : L ≠ r := Ne.symm (N _ (List.Mem.head _)).2.1
  have hD4 := (N4 _ (List.Mem.head _)).1
  rw [show Txt.join (Str.ofString "; ") [wd] = wd from rfl] at hD4
  refine doneQ keep hLr .refl (Fr.keep (by assumption)) hr4 ?ze (rowsPush (vs := vs) (Rows.keeps ?zR (Fr.keep (by assumption))) hD4 ?zl1 ?zl2) ?zl3 ?zp
  case zR => exact hrs
  case ze => simp
  case zl1 => omega
  case zl2 => omega
  case zp => first | rfl | trivial
  case zl3 => (simp only [List.length_append, List.length_cons, List.length_nil]; omega)
end

section
theorem resetK2 : True := by w_top off; trivial
-- 4-level

def doR2 (rs : List (Str × Str)) (nm wd : Str) : List (Str × Str) := match rs.find? (fun q => decide (Txt.lower q.1 = Txt.lower nm)) with | none => rs ++ [(nm, wd)] | some _ => rs
def doV2 (rs : List (Str × Str)) (nm wd : Str) : Str := match rs.find? (fun q => decide (Txt.lower q.1 = Txt.lower nm)) with | none => wd | some q => q.2
theorem do_2 {w : World} {loose : List Str} {mean : ExcName → Option Value} {mg mb : Str → Option Value}
  {dp un : Nat} {gd : Option (List Code)} {cn : Str} {cs : Scope} {a : Addr} {ccd : Value} {cl : List (Str × Addr)} {outer : List Env} {A₀ : Around} {base h₀ : Heap} {L : Addr} {m : Str → Option Value} {s : Shared} {E : Value → Shared → Prop}
    (B : Below A₀ base outer h₀) (F : Fr h₀ L s.heap m) (X : (hd.heap_1 w.params).In h₀) (T : Top vwP loose mean mg mb h₀) (hk : cs.kind = .function)
    {r x dx : Addr} {vs : List Value} {n : Nat} {hsh : Int} {ktk : Tok} {t1 t2 tk0 : Tok} {rs : List (Str × Str)} {nm wd : Str}
    (N : News h₀ L s.heap [(r, listOf vs.toArray n)]) (hx : s.heap.get? x = some (instObj 239 dx)) (hdx : s.heap.get? dx = some (dictOf [⟨hsh, .str (Str.ofString "_headers") ktk, .ref r⟩] 1))
    (hrs : Rows s.heap vs rs) (hvs : vs.length ≤ 100) (hnm : nm.length ≤ 20) (hwd : wd.length ≤ 100)
    (hd1 : dp + 40 < recursionLimit) (hu : un + 200 < cLine) (h1 : hits code105 nm = some false) (h2 : hits code105 (Txt.lower nm) = some false) (h3 : hits code110 wd = some false) :
      wpAny (model PySem.Challenge.rw_wf0067_01.row.prog w) (ktrTop dp un gd cn cs L a ccd cl outer) (call (.ref 271) [.ref x, .ref r, .int 2 tk0, .str nm t1, .str wd t2]) (TurnQ s r L (doR2 rs nm wd) (fun v => ∃ t, v = .str (doV2 rs nm wd) t)) E s := by
  have hr := (N _ (List.Mem.head _)).1
  refine wpAny_call ?_
  k_dflt (refine' callNB B F N ?kX ?kl ?kA ?kF ?kK ?k6 ?k7 ?k8 ?k9 ?kB ?_ ?c5 ?c2 ?c3 ?c4; (case kA => exact rfl); (case kF => exact rfl); (case kK => assumption); (case kX => exact X.keeps F.keep); (case kl => exact T.nolimit.keeps F.keep); (case k6 => k_is); (case k7 => k_is); (case k8 => ktr_room); (case k9 => exact BindsTo.of_eq rfl); (case c5 => decide); (case kB => exact locs rfl); (case c2 => exact rfl); (case c3 => exact rfl); (case c4 => exact rfl))
  intro g h1 keep back F1 N1 B1 hlt
  replace keep := keep_one keep
  have kg := base_in F.keep (News.fresh N (List.Mem.head _)) keep
  have X' := X.keeps kg
  have T' := T.keeps kg
  replace hx := keep _ _ hx (obj_ne hx hr (show Value.ref 239 ≠ Value.type "list" by decide))
  replace hdx := keep _ _ hdx (obj_ne hdx hr (show Value.type "dict" ≠ Value.type "list" by decide))
  replace hrs := hrs.hide hr keep
  have hlr : @LT.lt Nat _ r s.heap.objs.size := hlt _ List.mem_cons_self
  have hnm2 : nm.length ≤ 100 := by omega
  have hvs2 : vs.toArray.size ≤ 1000 := Nat.le_trans hvs (by decide)
  k_steps
  (rename GetIs _ _ _ => hget)
  unfold GetIs at hget
  have hd2 : doR2 rs nm wd = match rs.find? (fun q => decide (Txt.lower q.1 = Txt.lower nm)) with | none => rs ++ [(nm, wd)] | some _ => rs := rfl
  have hd3 : doV2 rs nm wd = match rs.find? (fun q => decide (Txt.lower q.1 = Txt.lower nm)) with | none => wd | some q => q.2 := rfl
  split at hget
  · (rename _ = none => hf)
    rw [hf] at hd2 hd3
    dsimp only at hd2 hd3
    subst hget
    k_steps
    (try dsimp only)
    (rename News _ _ _ _ => N4)
    (try dsimp only at N4)
    have hr4 := (N4 (r, _) (by k_mem)).1
    have hLr : L ≠ r := Ne.symm (N _ (List.Mem.head _)).2.1
    have hD4 := (N4 _ (List.Mem.head _)).1
    rw [hd2, hd3]
    refine doneQ keep hLr .refl (Fr.keep (by assumption)) hr4 ?ze (rowsPush (vs := vs) (Rows.keeps ?zR (Fr.keep (by assumption))) hD4 ?zl1 ?zl2) ?zl3 ?zp
    case zR => exact hrs
    case ze => simp
    case zl1 => omega
    case zl2 => omega
    case zp => first | exact ⟨_, rfl⟩
    case zl3 => (simp only [List.length_append, List.length_cons, List.length_nil]; omega)
  · (rename _ = some _ => hf)
    rw [hf] at hd2 hd3
    dsimp only at hd2 hd3
    obtain ⟨tkq, rfl⟩ := hget
    k_steps
    (try dsimp only)
    (rename News _ _ _ _ => N4)
    (try dsimp only at N4)
    have hr4 := (N4 (r, _) (by k_mem)).1
    have hLr : L ≠ r := Ne.symm (N _ (List.Mem.head _)).2.1
    rw [hd2, hd3]
    refine doneQ keep hLr .refl (Fr.keep (by assumption)) hr4 rfl (Rows.keeps hrs (Fr.keep (by assumption))) ?zl ?zp
    case zl => omega
    case zp => exact ⟨_, rfl⟩
end

section
theorem resetK3 : True := by w_top off; trivial
-- 4-level

theorem do_3 {w : World} {loose : List Str} {mean : ExcName → Option Value} {mg mb : Str → Option Value}
  {dp un : Nat} {gd : Option (List Code)} {cn : Str} {cs : Scope} {a : Addr} {ccd : Value} {cl : List (Str × Addr)} {outer : List Env} {A₀ : Around} {base h₀ : Heap} {L : Addr} {m : Str → Option Value} {s : Shared} {E : Value → Shared → Prop}
    (B : Below A₀ base outer h₀) (F : Fr h₀ L s.heap m) (X : (hd.heap_1 w.params).In h₀) (T : Top vwP loose mean mg mb h₀) (hk : cs.kind = .function)
    {r x dx : Addr} {vs : List Value} {n : Nat} {hsh : Int} {ktk : Tok} {t1 t2 tk0 : Tok} {rs : List (Str × Str)} {nm wd : Str}
    (N : News h₀ L s.heap [(r, listOf vs.toArray n)]) (hx : s.heap.get? x = some (instObj 239 dx)) (hdx : s.heap.get? dx = some (dictOf [⟨hsh, .str (Str.ofString "_headers") ktk, .ref r⟩] 1))
    (hrs : Rows s.heap vs rs) (hvs : vs.length ≤ 100) (hnm : nm.length ≤ 20) (hwd : wd.length ≤ 100)
    (hd1 : dp + 40 < recursionLimit) (hu : un + 200 < cLine) (h1 : hits code105 nm = some false) (h2 : hits code105 (Txt.lower nm) = some false) :
      wpAny (model PySem.Challenge.rw_wf0067_01.row.prog w) (ktrTop dp un gd cn cs L a ccd cl outer) (call (.ref 271) [.ref x, .ref r, .int 3 tk0, .str nm t1, .str wd t2]) (TurnQ s r L ((rs.filter fun q => decide (Txt.lower q.1 ≠ Txt.lower nm))) (· = .none)) E s := by
  have hr := (N _ (List.Mem.head _)).1
  refine wpAny_call ?_
  k_dflt (refine' callNB B F N ?kX ?kl ?kA ?kF ?kK ?k6 ?k7 ?k8 ?k9 ?kB ?_ ?c5 ?c2 ?c3 ?c4; (case kA => exact rfl); (case kF => exact rfl); (case kK => assumption); (case kX => exact X.keeps F.keep); (case kl => exact T.nolimit.keeps F.keep); (case k6 => k_is); (case k7 => k_is); (case k8 => ktr_room); (case k9 => exact BindsTo.of_eq rfl); (case c5 => decide); (case kB => exact locs rfl); (case c2 => exact rfl); (case c3 => exact rfl); (case c4 => exact rfl))
  intro g h1 keep back F1 N1 B1 hlt
  replace keep := keep_one keep
  have kg := base_in F.keep (News.fresh N (List.Mem.head _)) keep
  have X' := X.keeps kg
  have T' := T.keeps kg
  replace hx := keep _ _ hx (obj_ne hx hr (show Value.ref 239 ≠ Value.type "list" by decide))
  replace hdx := keep _ _ hdx (obj_ne hdx hr (show Value.type "dict" ≠ Value.type "list" by decide))
  replace hrs := hrs.hide hr keep
  have hlr : @LT.lt Nat _ r s.heap.objs.size := hlt _ List.mem_cons_self
  have hnm2 : nm.length ≤ 100 := by omega
  have hvs2 : vs.toArray.size ≤ 1000 := Nat.le_trans hvs (by decide)
  k_steps
  (try dsimp only)
  (rename News _ _ _ _ => N4)
  (try dsimp only at N4)
  have hr4 := (N4 (r, _) (by k_mem)).1
  have hLr : L ≠ r := Ne.symm (N _ (List.Mem.head _)).2.1
  refine doneQ keep hLr .refl (Fr.keep (by assumption)) hr4 rfl (Rows.keeps (by assumption) (Fr.keep (by assumption))) ?zl ?zp
  case zl => exact Nat.le_trans (rows_le hrs (by assumption) hvs) (by decide)
  case zp => rfl
end
section
local macro_rules | `(tactic| walk_at "leaving ref") => `(tactic| (k_here; (with_reducible rename KtsDicts _ _ => kdX); (refine' leave_onSNX ?k1 ?k2 ?k3 ?k4 ?_; (case k3 => assumption); (case k2 => assumption); (case k1 => assumption); (case k4 => assumption); k_whole; intro h' S' R' U'; (try dsimp only at S' R' U' ⊢))))

section
theorem resetK4 : True := by w_top off; trivial
-- 4-level

theorem do_4 {w : World} {loose : List Str} {mean : ExcName → Option Value} {mg mb : Str → Option Value}
  {dp un : Nat} {gd : Option (List Code)} {cn : Str} {cs : Scope} {a : Addr} {ccd : Value} {cl : List (Str × Addr)} {A₀ : Around} {base h₀ : Heap} {L : Addr} {m : Str → Option Value} {s : Shared} {E : Value → Shared → Prop}
    (B : Below A₀ base [] h₀) (F : Fr h₀ L s.heap m) (X : (hd.heap_1 w.params).In h₀) (T : Top vwP loose mean mg mb h₀) (hk : cs.kind = .function)
    {r x dx : Addr} {vs : List Value} {n : Nat} {hsh : Int} {ktk : Tok} {t1 t2 tk0 : Tok} {rs : List (Str × Str)} {nm wd : Str}
    (N : News h₀ L s.heap [(r, listOf vs.toArray n)]) (hx : s.heap.get? x = some (instObj 239 dx)) (hdx : s.heap.get? dx = some (dictOf [⟨hsh, .str (Str.ofString "_headers") ktk, .ref r⟩] 1))
    (hrs : Rows s.heap vs rs) (hvs : vs.length ≤ 100) (hnm : nm.length ≤ 20) (hwd : wd.length ≤ 100)
    (XB : (hd.heap_1 w.params).In base) (TB : Top vwP loose mean mg mb base) (hd1 : dp + 40 < recursionLimit) (hu : un + 200 < cLine) (h1 : hits code105 nm = some false) (h2 : hits code105 (Txt.lower nm) = some false) (h3 : hits code110 (wd ++ Str.ofString "\n") = some true) :
      wpAny (model PySem.Challenge.rw_wf0067_01.row.prog w) (ktrTop dp un gd cn cs L a ccd cl []) (call (.ref 271) [.ref x, .ref r, .int 4 tk0, .str nm t1, .str wd t2]) (TurnQ s r L ((rs.filter fun q => decide (Txt.lower q.1 ≠ Txt.lower nm))) (fun v => ∃ t, v = .str (Str.ofString "refused") t)) E s := by
  have hr := (N _ (List.Mem.head _)).1
  refine wpAny_call ?_
  k_dflt (refine' callNB B F N ?kX ?kl ?kA ?kF ?kK ?k6 ?k7 ?k8 ?k9 ?kB ?_ ?c5 ?c2 ?c3 ?c4; (case kA => exact rfl); (case kF => exact rfl); (case kK => assumption); (case kX => exact X.keeps F.keep); (case kl => exact T.nolimit.keeps F.keep); (case k6 => k_is); (case k7 => k_is); (case k8 => ktr_room); (case k9 => exact BindsTo.of_eq rfl); (case c5 => decide); (case kB => exact locs rfl); (case c2 => exact rfl); (case c3 => exact rfl); (case c4 => exact rfl))
  intro g h1 keep back F1 N1 B1 hlt
  replace keep := keep_one keep
  have kg := base_in F.keep (News.fresh N (List.Mem.head _)) keep
  have X' := X.keeps kg
  have T' := T.keeps kg
  replace hx := keep _ _ hx (obj_ne hx hr (show Value.ref 239 ≠ Value.type "list" by decide))
  replace hdx := keep _ _ hdx (obj_ne hdx hr (show Value.type "dict" ≠ Value.type "list" by decide))
  replace hrs := hrs.hide hr keep
  have hlr : @LT.lt Nat _ r s.heap.objs.size := hlt _ List.mem_cons_self
  have hnm2 : nm.length ≤ 100 := by omega
  have hvs2 : vs.toArray.size ≤ 1000 := Nat.le_trans hvs (by decide)
  have q10 : (wd ++ Str.ofString "\n").length ≤ 110 := by
    rw [Str.length_append]
    have : (Str.ofString "\n").length = 1 := by decide
    omega
  have D1 : KtsDicts ((envX cn cs L a ccd cl :: []).filterMap (·.frame)) g := by
    intro b hb
    have hb' : b = L := by simpa using hb
    subst hb'
    obtain ⟨oL, es, ep, hL, hLd, _⟩ := F.ns
    exact ⟨oL, es, ep, keep _ _ hL (Ne.symm (N _ (List.Mem.head _)).2.1), hLd⟩
  k_steps
  (try dsimp only)
  (rename News _ _ _ _ => N4)
  (try dsimp only at N4)
  have hr4 := (N4 (r, _) (by k_mem)).1
  have hLr : L ≠ r := Ne.symm (N _ (List.Mem.head _)).2.1
  have D1 : KtsDicts [L] g := by
    intro b hb
    rw [List.mem_singleton.mp hb]
    obtain ⟨oL, es, ep, hL, hLd, _⟩ := F.ns
    exact ⟨oL, es, ep, keep _ _ hL hLr, hLd⟩
  have kT := (show KtsTurn [L] _ _ by assumption)
  exact doneQ keep hLr kT (Fr.keep (by assumption)) hr4 rfl (rowsTurn (by assumption) D1 kT (Fr.keep (by assumption))) (Nat.le_trans (rows_le hrs (by assumption) hvs) (by decide)) ⟨_, rfl⟩
end

section
theorem resetK6 : True := by w_top off; trivial
-- 4-level

theorem do_6 {w : World} {loose : List Str} {mean : ExcName → Option Value} {mg mb : Str → Option Value}
  {dp un : Nat} {gd : Option (List Code)} {cn : Str} {cs : Scope} {a : Addr} {ccd : Value} {cl : List (Str × Addr)} {A₀ : Around} {base h₀ : Heap} {L : Addr} {m : Str → Option Value} {s : Shared} {E : Value → Shared → Prop}
    (B : Below A₀ base [] h₀) (F : Fr h₀ L s.heap m) (X : (hd.heap_1 w.params).In h₀) (T : Top vwP loose mean mg mb h₀) (hk : cs.kind = .function)
    {r x dx : Addr} {vs : List Value} {n : Nat} {hsh : Int} {ktk : Tok} {t1 t2 tk0 : Tok} {rs : List (Str × Str)} {nm wd : Str}
    (N : News h₀ L s.heap [(r, listOf vs.toArray n)]) (hx : s.heap.get? x = some (instObj 239 dx)) (hdx : s.heap.get? dx = some (dictOf [⟨hsh, .str (Str.ofString "_headers") ktk, .ref r⟩] 1))
    (hrs : Rows s.heap vs rs) (hvs : vs.length ≤ 100) (hnm : nm.length ≤ 20) (hwd : wd.length ≤ 100)
    (XB : (hd.heap_1 w.params).In base) (TB : Top vwP loose mean mg mb base) (hd1 : dp + 40 < recursionLimit) (hu : un + 200 < cLine) (h3 : hits code105 (Txt.lower (nm ++ Str.ofString "\t")) = some true) :
      wpAny (model PySem.Challenge.rw_wf0067_01.row.prog w) (ktrTop dp un gd cn cs L a ccd cl []) (call (.ref 271) [.ref x, .ref r, .int 6 tk0, .str nm t1, .str wd t2]) (TurnQ s r L (rs) (fun v => ∃ t, v = .str (Str.ofString "refused") t)) E s := by
  have hr := (N _ (List.Mem.head _)).1
  refine wpAny_call ?_
  k_dflt (refine' callNB B F N ?kX ?kl ?kA ?kF ?kK ?k6 ?k7 ?k8 ?k9 ?kB ?_ ?c5 ?c2 ?c3 ?c4; (case kA => exact rfl); (case kF => exact rfl); (case kK => assumption); (case kX => exact X.keeps F.keep); (case kl => exact T.nolimit.keeps F.keep); (case k6 => k_is); (case k7 => k_is); (case k8 => ktr_room); (case k9 => exact BindsTo.of_eq rfl); (case c5 => decide); (case kB => exact locs rfl); (case c2 => exact rfl); (case c3 => exact rfl); (case c4 => exact rfl))
  intro g h1 keep back F1 N1 B1 hlt
  replace keep := keep_one keep
  have kg := base_in F.keep (News.fresh N (List.Mem.head _)) keep
  have X' := X.keeps kg
  have T' := T.keeps kg
  replace hx := keep _ _ hx (obj_ne hx hr (show Value.ref 239 ≠ Value.type "list" by decide))
  replace hdx := keep _ _ hdx (obj_ne hdx hr (show Value.type "dict" ≠ Value.type "list" by decide))
  replace hrs := hrs.hide hr keep
  have hlr : @LT.lt Nat _ r s.heap.objs.size := hlt _ List.mem_cons_self
  have hnm2 : nm.length ≤ 100 := by omega
  have hvs2 : vs.toArray.size ≤ 1000 := Nat.le_trans hvs (by decide)
  have q9 : (nm ++ Str.ofString "\t").length ≤ 30 := by
    rw [Str.length_append]
    have : (Str.ofString "\t").length = 1 := by decide
    omega
  have D1 : KtsDicts ((envX cn cs L a ccd cl :: []).filterMap (·.frame)) g := by
    intro b hb
    have hb' : b = L := by simpa using hb
    subst hb'
    obtain ⟨oL, es, ep, hL, hLd, _⟩ := F.ns
    exact ⟨oL, es, ep, keep _ _ hL (Ne.symm (N _ (List.Mem.head _)).2.1), hLd⟩
  k_steps
  (try dsimp only)
  (rename News _ _ _ _ => N4)
  (try dsimp only at N4)
  have hr4 := (N4 (r, _) (by k_mem)).1
  have hLr : L ≠ r := Ne.symm (N _ (List.Mem.head _)).2.1
  have D1 : KtsDicts [L] g := by
    intro b hb
    rw [List.mem_singleton.mp hb]
    obtain ⟨oL, es, ep, hL, hLd, _⟩ := F.ns
    exact ⟨oL, es, ep, keep _ _ hL hLr, hLd⟩
  have kT := (show KtsTurn [L] _ _ by assumption)
  exact doneQ keep hLr kT (Fr.keep (by assumption)) hr4 rfl (rowsTurn hrs D1 kT (Fr.keep (by assumption))) (by omega) ⟨_, rfl⟩
end

section
theorem resetK5 : True := by w_top off; trivial
-- 4-level

section
open PySem.Builtin.Str
theorem field_named {prog : Program} {w : World} {A : Around} {E : Value → Shared → Prop} {s : Shared} {id : String} {a : Array Value} {byName : PySem.Str → Sem Value} {v : Value} {Q : Value × Numbering → Shared → Prop} (ha : a[0]? = some v)
    (h : Q (v, .manual) s) : wpAny (model prog w) A (fieldObject id (some a) byName [48] .unset) Q E s := by
  unfold fieldObject
  refine wpAny_bind (wpAny_of_eq (a := some 0) rfl ?_)
  refine wpAny_bind (wpAny_of_eq (a := (some 0, .manual)) rfl ?_)
  simp only [ha, pure_bind]
  rw [KPc.range_list]
  exact wpAny_bind (wpAny_pure (wpAny_pure h))
end
local macro_rules | `(tactic| kfm_field) => `(tactic| (
  refine wpAny_bind (field_named (by rfl) ?_)
  refine wpAny_bind (wpAny_holding (wpAny_of_eq (a := _) rfl ?_))
  kpc_if
  refine wpAny_bind (wpAny_pure ?_)
  kfm_val
  refine wpAny_bind (wpAny_of_eq (a := some _) rfl ?_)
  refine wpAny_pure ?_
  refine KFm.after_field (by kpc_g) (by kpc_text) (by kpc_obj) (by kfm_len) (by kpc_obj) (by kfm_cat2) (by kfm_rest) ?_
  intro _ _))
theorem do_5 {w : World} {loose : List Str} {mean : ExcName → Option Value} {mg mb : Str → Option Value}
  {dp un : Nat} {gd : Option (List Code)} {cn : Str} {cs : Scope} {a : Addr} {ccd : Value} {cl : List (Str × Addr)} {A₀ : Around} {base h₀ : Heap} {L : Addr} {m : Str → Option Value} {s : Shared} {E : Value → Shared → Prop}
    (B : Below A₀ base [] h₀) (F : Fr h₀ L s.heap m) (X : (hd.heap_1 w.params).In h₀) (T : Top vwP loose mean mg mb h₀) (hk : cs.kind = .function)
    {r x dx : Addr} {vs : List Value} {n : Nat} {hsh : Int} {ktk : Tok} {t1 t2 tk0 : Tok} {rs : List (Str × Str)} {nm wd : Str}
    (N : News h₀ L s.heap [(r, listOf vs.toArray n)]) (hx : s.heap.get? x = some (instObj 239 dx)) (hdx : s.heap.get? dx = some (dictOf [⟨hsh, .str (Str.ofString "_headers") ktk, .ref r⟩] 1))
    (hrs : Rows s.heap vs rs) (hvs : vs.length ≤ 100) (hnm : nm.length ≤ 20) (hwd : wd.length ≤ 100)
    (XB : (hd.heap_1 w.params).In base) (TB : Top vwP loose mean mg mb base) (hd1 : dp + 40 < recursionLimit) (hu : un + 200 < cLine) (h1 : hits code105 nm = some false) (h2 : hits code105 (Txt.lower nm) = some false) :
      wpAny (model PySem.Challenge.rw_wf0067_01.row.prog w) (ktrTop dp un gd cn cs L a ccd cl []) (call (.ref 271) [.ref x, .ref r, .int 5 tk0, .str nm t1, .str wd t2]) (TurnQ s r L ((rs.filter fun q => decide (Txt.lower q.1 ≠ Txt.lower nm))) (fun v => ∃ t, v = .str (Str.ofString "no text") t)) E s := by
  have hr := (N _ (List.Mem.head _)).1
  refine wpAny_call ?_
  k_dflt (refine' callNB B F N ?kX ?kl ?kA ?kF ?kK ?k6 ?k7 ?k8 ?k9 ?kB ?_ ?c5 ?c2 ?c3 ?c4; (case kA => exact rfl); (case kF => exact rfl); (case kK => assumption); (case kX => exact X.keeps F.keep); (case kl => exact T.nolimit.keeps F.keep); (case k6 => k_is); (case k7 => k_is); (case k8 => ktr_room); (case k9 => exact BindsTo.of_eq rfl); (case c5 => decide); (case kB => exact locs rfl); (case c2 => exact rfl); (case c3 => exact rfl); (case c4 => exact rfl))
  intro g h1 keep back F1 N1 B1 hlt
  replace keep := keep_one keep
  have kg := base_in F.keep (News.fresh N (List.Mem.head _)) keep
  have X' := X.keeps kg
  have T' := T.keeps kg
  replace hx := keep _ _ hx (obj_ne hx hr (show Value.ref 239 ≠ Value.type "list" by decide))
  replace hdx := keep _ _ hdx (obj_ne hdx hr (show Value.type "dict" ≠ Value.type "list" by decide))
  replace hrs := hrs.hide hr keep
  have hlr : @LT.lt Nat _ r s.heap.objs.size := hlt _ List.mem_cons_self
  have hnm2 : nm.length ≤ 100 := by omega
  have hvs2 : vs.toArray.size ≤ 1000 := Nat.le_trans hvs (by decide)
  have D1 : KtsDicts ((envX cn cs L a ccd cl :: []).filterMap (·.frame)) g := by
    intro b hb
    have hb' : b = L := by simpa using hb
    subst hb'
    obtain ⟨oL, es, ep, hL, hLd, _⟩ := F.ns
    exact ⟨oL, es, ep, keep _ _ hL (Ne.symm (N _ (List.Mem.head _)).2.1), hLd⟩
  k_steps
  (try dsimp only)
  (rename News _ _ _ _ => N4)
  (try dsimp only at N4)
  have hr4 := (N4 (r, _) (by k_mem)).1
  have hLr : L ≠ r := Ne.symm (N _ (List.Mem.head _)).2.1
  have D1 : KtsDicts [L] g := by
    intro b hb
    rw [List.mem_singleton.mp hb]
    obtain ⟨oL, es, ep, hL, hLd, _⟩ := F.ns
    exact ⟨oL, es, ep, keep _ _ hL hLr, hLd⟩
  have kT := (show KtsTurn [L] _ _ by assumption)
  exact doneQ keep hLr kT (Fr.keep (by assumption)) hr4 rfl (rowsTurn (by assumption) D1 kT (Fr.keep (by assumption))) (Nat.le_trans (rows_le hrs (by assumption) hvs) (by decide)) ⟨_, rfl⟩
end
end
end
section
local macro_rules | `(tactic| walk_at "inplaceOp Add ref") => `(tactic| (k_here; k_dflt (refine' iadd_K ?F ?N ?U ?D ?x ?y ?_; (case F => k_asm); (case N => k_asm); (case U => k_updF); (case D => exact led_list (by k_asm) (by k_mem)); (case x => assumption); (case y => exact Nat.le_of_ble_eq_true rfl); k_whole); intro h' n' F' N'; (try dsimp only at N'); (try k_sweep)))
local macro_rules | `(tactic| walk_at "delItem ref int") => `(tactic| (k_here; k_dflt (refine' del0_K ?F ?N ?U ?p ?x ?_; (case F => k_asm); (case N => k_asm); (case U => k_updF); (case p => first | assumption | omega); (case x => assumption); k_whole); intro h' n' F' N'; (try dsimp only at N'); (try k_sweep)))

section
theorem resetK7 : True := by w_top off; trivial
-- 4-level

theorem do_7 {w : World} {loose : List Str} {mean : ExcName → Option Value} {mg mb : Str → Option Value}
  {dp un : Nat} {gd : Option (List Code)} {cn : Str} {cs : Scope} {a : Addr} {ccd : Value} {cl : List (Str × Addr)} {outer : List Env} {A₀ : Around} {base h₀ : Heap} {L : Addr} {m : Str → Option Value} {s : Shared} {E : Value → Shared → Prop}
    (B : Below A₀ base outer h₀) (F : Fr h₀ L s.heap m) (X : (hd.heap_1 w.params).In h₀) (T : Top vwP loose mean mg mb h₀) (hk : cs.kind = .function)
    {r x dx : Addr} {vs : List Value} {n : Nat} {hsh : Int} {ktk : Tok} {t1 t2 tk0 : Tok} {rs : List (Str × Str)} {nm wd : Str}
    (N : News h₀ L s.heap [(r, listOf vs.toArray n)]) (hx : s.heap.get? x = some (instObj 239 dx)) (hdx : s.heap.get? dx = some (dictOf [⟨hsh, .str (Str.ofString "_headers") ktk, .ref r⟩] 1))
    (hrs : Rows s.heap vs rs) (hvs : vs.length ≤ 100) (hnm : nm.length ≤ 20) (hwd : wd.length ≤ 100)
    (hd1 : dp + 40 < recursionLimit) (hu : un + 200 < cLine) :
      wpAny (model PySem.Challenge.rw_wf0067_01.row.prog w) (ktrTop dp un gd cn cs L a ccd cl outer) (call (.ref 271) [.ref x, .ref r, .int 7 tk0, .str nm t1, .str wd t2]) (TurnQ s r L (rs ++ [(nm, wd)]) (· = .bool true)) E s := by
  have hr := (N _ (List.Mem.head _)).1
  refine wpAny_call ?_
  k_dflt (refine' callNB B F N ?kX ?kl ?kA ?kF ?kK ?k6 ?k7 ?k8 ?k9 ?kB ?_ ?c5 ?c2 ?c3 ?c4; (case kA => exact rfl); (case kF => exact rfl); (case kK => assumption); (case kX => exact X.keeps F.keep); (case kl => exact T.nolimit.keeps F.keep); (case k6 => k_is); (case k7 => k_is); (case k8 => ktr_room); (case k9 => exact BindsTo.of_eq rfl); (case c5 => decide); (case kB => exact locs rfl); (case c2 => exact rfl); (case c3 => exact rfl); (case c4 => exact rfl))
  intro g h1 keep back F1 N1 B1 hlt
  replace keep := keep_one keep
  have kg := base_in F.keep (News.fresh N (List.Mem.head _)) keep
  have X' := X.keeps kg
  have T' := T.keeps kg
  replace hx := keep _ _ hx (obj_ne hx hr (show Value.ref 239 ≠ Value.type "list" by decide))
  replace hdx := keep _ _ hdx (obj_ne hdx hr (show Value.type "dict" ≠ Value.type "list" by decide))
  replace hrs := hrs.hide hr keep
  have hlr : @LT.lt Nat _ r s.heap.objs.size := hlt _ List.mem_cons_self
  have hnm2 : nm.length ≤ 100 := by omega
  have hvs2 : vs.toArray.size ≤ 1000 := Nat.le_trans hvs (by decide)
  k_steps
  (try dsimp only)
  (rename News _ _ _ _ => N4)
  (try dsimp only at N4)
  have hr4 := (N4 (r, _) (by k_mem)).1
  have hLr : L ≠ r := Ne.symm (N _ (List.Mem.head _)).2.1
  have hD4 := (N4 _ (List.Mem.tail _ (List.Mem.head _))).1
  refine doneQ keep hLr .refl (Fr.keep (by assumption)) hr4 ?ze (rowsPush (vs := vs) (Rows.keeps ?zR (Fr.keep (by assumption))) hD4 ?zl1 ?zl2) ?zl3 ?zp
  case zR => exact hrs
  case ze => simp
  case zl1 => omega
  case zl2 => omega
  case zp => first | rfl | trivial
  case zl3 => (simp only [List.length_append, List.length_cons, List.length_nil]; omega)
end

section
theorem resetK8 : True := by w_top off; trivial
-- 4-level

theorem do_8 {w : World} {loose : List Str} {mean : ExcName → Option Value} {mg mb : Str → Option Value}
  {dp un : Nat} {gd : Option (List Code)} {cn : Str} {cs : Scope} {a : Addr} {ccd : Value} {cl : List (Str × Addr)} {outer : List Env} {A₀ : Around} {base h₀ : Heap} {L : Addr} {m : Str → Option Value} {s : Shared} {E : Value → Shared → Prop}
    (B : Below A₀ base outer h₀) (F : Fr h₀ L s.heap m) (X : (hd.heap_1 w.params).In h₀) (T : Top vwP loose mean mg mb h₀) (hk : cs.kind = .function)
    {r x dx : Addr} {vs : List Value} {n : Nat} {hsh : Int} {ktk : Tok} {t1 t2 tk0 : Tok} {rs : List (Str × Str)} {nm wd : Str}
    (N : News h₀ L s.heap [(r, listOf vs.toArray n)]) (hx : s.heap.get? x = some (instObj 239 dx)) (hdx : s.heap.get? dx = some (dictOf [⟨hsh, .str (Str.ofString "_headers") ktk, .ref r⟩] 1))
    (hrs : Rows s.heap vs rs) (hvs : vs.length ≤ 100) (hnm : nm.length ≤ 20) (hwd : wd.length ≤ 100)
    (hd1 : dp + 40 < recursionLimit) (hu : un + 200 < cLine) :
      wpAny (model PySem.Challenge.rw_wf0067_01.row.prog w) (ktrTop dp un gd cn cs L a ccd cl outer) (call (.ref 271) [.ref x, .ref r, .int 8 tk0, .str nm t1, .str wd t2]) (TurnQ s r L (rs.drop 1) (· = .none)) E s := by
  have hr := (N _ (List.Mem.head _)).1
  refine wpAny_call ?_
  k_dflt (refine' callNB B F N ?kX ?kl ?kA ?kF ?kK ?k6 ?k7 ?k8 ?k9 ?kB ?_ ?c5 ?c2 ?c3 ?c4; (case kA => exact rfl); (case kF => exact rfl); (case kK => assumption); (case kX => exact X.keeps F.keep); (case kl => exact T.nolimit.keeps F.keep); (case k6 => k_is); (case k7 => k_is); (case k8 => ktr_room); (case k9 => exact BindsTo.of_eq rfl); (case c5 => decide); (case kB => exact locs rfl); (case c2 => exact rfl); (case c3 => exact rfl); (case c4 => exact rfl))
  intro g h1 keep back F1 N1 B1 hlt
  replace keep := keep_one keep
  have kg := base_in F.keep (News.fresh N (List.Mem.head _)) keep
  have X' := X.keeps kg
  have T' := T.keeps kg
  replace hx := keep _ _ hx (obj_ne hx hr (show Value.ref 239 ≠ Value.type "list" by decide))
  replace hdx := keep _ _ hdx (obj_ne hdx hr (show Value.type "dict" ≠ Value.type "list" by decide))
  replace hrs := hrs.hide hr keep
  have hlr : @LT.lt Nat _ r s.heap.objs.size := hlt _ List.mem_cons_self
  have hnm2 : nm.length ≤ 100 := by omega
  have hvs2 : vs.toArray.size ≤ 1000 := Nat.le_trans hvs (by decide)
  k_steps
  · (try dsimp only)
    (rename News _ _ _ _ => N4)
    (try dsimp only at N4)
    have hr4 := (N4 (r, _) (by k_mem)).1
    have hLr : L ≠ r := Ne.symm (N _ (List.Mem.head _)).2.1
    refine doneQ keep hLr .refl (Fr.keep (by assumption)) hr4 ?ze (Rows.keeps (vs := vs.drop 1) ?zR (Fr.keep (by assumption))) ?zl ?zp
    case ze => cases vs <;> simp
    case zR => (cases hrs with | nil => exact .nil | cons a b => exact b)
    case zl => simp; omega
    case zp => rfl
  · (try dsimp only)
    (rename News _ _ _ _ => N4)
    (try dsimp only at N4)
    have hr4 := (N4 (r, _) (by k_mem)).1
    have hLr : L ≠ r := Ne.symm (N _ (List.Mem.head _)).2.1
    have hn : vs = [] := List.length_eq_zero_iff.mp (by simp at *; omega)
    subst hn
    have hn2 : rs = [] := by cases hrs; rfl
    subst hn2
    refine doneQ keep hLr .refl (Fr.keep (by assumption)) hr4 ?ze (vs' := []) .nil (by decide) rfl
    case ze => rfl
end

section
theorem resetOps : True := by w_top off; trivial
local macro_rules | `(tactic| walk_at "zz pad") => `(tactic| fail)
-- 4-level

theorem pick_all (vs : List Value) : slicePick vs.toArray none none none = vs.toArray := by
  rw [kms_pick_eq]
  unfold kms_pick
  have e1 : kms_lo none vs.toArray.toList.length = 0 := by simp [kms_lo]
  have e2 : kms_hi none vs.toArray.toList.length = vs.length := by simp [kms_hi]
  rw [e1, e2]
  simp

section
variable {prog : Program} {w : World} {A : Around} {s : Shared} {loose : List Str} {mean : ExcName → Option Value} {mg mb : Str → Option Value} {E : Value → Shared → Prop}
  {x dx r : Addr} {hsh : Int} {ktk : Tok} {vs : List Value} {n : Nat} {rs : List (Str × Str)} {nm : Str} {t : Tok}
theorem gi_ok (X : (hd.heap_1 w.params).In s.heap) (T : Top vwP loose mean mg mb s.heap) (hh : A.handled = none) (hroom : A.depth + 8 < recursionLimit)
    (hx : s.heap.get? x = some (instObj 239 dx)) (hdx : s.heap.get? dx = some (dictOf [⟨hsh, .str (Str.ofString "_headers") ktk, .ref r⟩] 1)) (hr : s.heap.get? r = some (listOf vs.toArray n))
    (hrs : Rows s.heap vs rs) (hvs : vs.length ≤ 100) (hl : nm.length ≤ 100) (h1 : hits code105 (Txt.lower nm) = some false) : wpAny (model prog w) A (call (.ref 166) [.ref x, .str nm t]) (PK s fun _ v => GetIs rs (Txt.lower nm) v) E s := by
  refine wpAny_call ?_
  k_dflt (refine' callP X T.nolimit ?k6 ?k7 ?k8 ?k9 ?kB ?_ ?c5 ?c2 ?c3 ?c4; (case k6 => k_is); (case k7 => k_is); (case k8 => omega); (case k9 => first | exact BindsTo.of_eq rfl | exact binds_K (by k_in) rfl (by k_is) rfl rfl rfl); (case c5 => decide); (case kB => exact locs rfl); (case c2 => exact rfl); (case c3 => exact rfl); (case c4 => exact rfl))
  intro h1 F1
  have N1 : News s.heap s.heap.objs.size h1 [] := News.nil
  k_steps
  exact PK.of (by assumption) (by assumption)
theorem gi_ok_q {hb hq : Heap} (X : (hd.heap_1 w.params).In hb) (T : Top vwP loose mean mg mb hb) (kb : ∀ b o, hb.get? b = some o → s.heap.get? b = some o) (hh : A.handled = none) (hroom : A.depth + 8 < recursionLimit)
    (kq : ∀ b o, hq.get? b = some o → s.heap.get? b = some o) (hx : hq.get? x = some (instObj 239 dx)) (hdx : hq.get? dx = some (dictOf [⟨hsh, .str (Str.ofString "_headers") ktk, .ref r⟩] 1)) (hr : s.heap.get? r = some (listOf vs.toArray n))
    (hrs : Rows hq vs rs) (hvs : vs.length ≤ 100) (hl : nm.length ≤ 100) (h1 : hits code105 (Txt.lower nm) = some false) : wpAny (model prog w) A (call (.ref 166) [.ref x, .str nm t]) (PK s fun _ v => GetIs rs (Txt.lower nm) v) E s :=
  gi_ok (X.keeps kb) (T.keeps kb) hh hroom (kq _ _ hx) (kq _ _ hdx) hr (hrs.keeps kq) hvs hl h1
theorem co_ok (X : (hd.heap_1 w.params).In s.heap) (T : Top vwP loose mean mg mb s.heap) (hh : A.handled = none) (hroom : A.depth + 8 < recursionLimit)
    (hx : s.heap.get? x = some (instObj 239 dx)) (hdx : s.heap.get? dx = some (dictOf [⟨hsh, .str (Str.ofString "_headers") ktk, .ref r⟩] 1)) (hr : s.heap.get? r = some (listOf vs.toArray n))
    (hrs : Rows s.heap vs rs) (hvs : vs.length ≤ 100) (hl : nm.length ≤ 100) (h1 : hits code105 (Txt.lower nm) = some false) : wpAny (model prog w) A (call (.ref 173) [.ref x, .str nm t]) (PK s fun _ v => v = .bool (rs.find? (fun q => decide (Txt.lower q.1 = Txt.lower nm))).isSome) E s := by
  refine wpAny_call ?_
  k_dflt (refine' callP X T.nolimit ?k6 ?k7 ?k8 ?k9 ?kB ?_ ?c5 ?c2 ?c3 ?c4; (case k6 => k_is); (case k7 => k_is); (case k8 => omega); (case k9 => first | exact BindsTo.of_eq rfl | exact binds_K (by k_in) rfl (by k_is) rfl rfl rfl); (case c5 => decide); (case kB => exact locs rfl); (case c2 => exact rfl); (case c3 => exact rfl); (case c4 => exact rfl))
  intro h1 F1
  have N1 : News s.heap s.heap.objs.size h1 [] := News.nil
  k_steps
  (rename GetIs _ _ _ => hg)
  unfold GetIs at hg
  split at hg
  · (rename _ = none => hf)
    subst hg
    rw [hf]
    k_steps
    exact PK.of (by assumption) rfl
  · (rename _ = some _ => hf)
    obtain ⟨tkq, rfl⟩ := hg
    rw [hf]
    k_steps
    exact PK.of (by assumption) rfl
theorem co_ok_q {hb hq : Heap} (X : (hd.heap_1 w.params).In hb) (T : Top vwP loose mean mg mb hb) (kb : ∀ b o, hb.get? b = some o → s.heap.get? b = some o) (hh : A.handled = none) (hroom : A.depth + 8 < recursionLimit)
    (kq : ∀ b o, hq.get? b = some o → s.heap.get? b = some o) (hx : hq.get? x = some (instObj 239 dx)) (hdx : hq.get? dx = some (dictOf [⟨hsh, .str (Str.ofString "_headers") ktk, .ref r⟩] 1)) (hr : s.heap.get? r = some (listOf vs.toArray n))
    (hrs : Rows hq vs rs) (hvs : vs.length ≤ 100) (hl : nm.length ≤ 100) (h1 : hits code105 (Txt.lower nm) = some false) : wpAny (model prog w) A (call (.ref 173) [.ref x, .str nm t]) (PK s fun _ v => v = .bool (rs.find? (fun q => decide (Txt.lower q.1 = Txt.lower nm))).isSome) E s :=
  co_ok (X.keeps kb) (T.keeps kb) hh hroom (kq _ _ hx) (kq _ _ hdx) hr (hrs.keeps kq) hvs hl h1
theorem le_ok (X : (hd.heap_1 w.params).In s.heap) (T : Top vwP loose mean mg mb s.heap) (hh : A.handled = none) (hroom : A.depth + 8 < recursionLimit)
    (hx : s.heap.get? x = some (instObj 239 dx)) (hdx : s.heap.get? dx = some (dictOf [⟨hsh, .str (Str.ofString "_headers") ktk, .ref r⟩] 1)) (hr : s.heap.get? r = some (listOf vs.toArray n))
    (hvs : vs.length ≤ 100) : wpAny (model prog w) A (call (.ref 147) [.ref x]) (PK s fun _ v => ∃ tk, v = .int vs.toArray.size tk) E s := by
  refine wpAny_call ?_
  k_dflt (refine' callP X T.nolimit ?k6 ?k7 ?k8 ?k9 ?kB ?_ ?c5 ?c2 ?c3 ?c4; (case k6 => k_is); (case k7 => k_is); (case k8 => omega); (case k9 => first | exact BindsTo.of_eq rfl | exact binds_K (by k_in) rfl (by k_is) rfl rfl rfl); (case c5 => decide); (case kB => exact locs rfl); (case c2 => exact rfl); (case c3 => exact rfl); (case c4 => exact rfl))
  intro h1 F1
  have N1 : News s.heap s.heap.objs.size h1 [] := News.nil
  have hl : s.heap.IsList r vs.toArray := ⟨_, hr, rfl, n, rfl⟩
  have hvs2 : vs.toArray.size ≤ 1000 := Nat.le_trans hvs (by decide)
  k_steps
  exact PK.of (by assumption) ⟨_, rfl⟩
theorem le_ok_q {hb hq : Heap} (X : (hd.heap_1 w.params).In hb) (T : Top vwP loose mean mg mb hb) (kb : ∀ b o, hb.get? b = some o → s.heap.get? b = some o) (hh : A.handled = none) (hroom : A.depth + 8 < recursionLimit)
    (kq : ∀ b o, hq.get? b = some o → s.heap.get? b = some o) (hx : hq.get? x = some (instObj 239 dx)) (hdx : hq.get? dx = some (dictOf [⟨hsh, .str (Str.ofString "_headers") ktk, .ref r⟩] 1)) (hr : s.heap.get? r = some (listOf vs.toArray n))
    (hvs : vs.length ≤ 100) : wpAny (model prog w) A (call (.ref 147) [.ref x]) (PK s fun _ v => ∃ tk, v = .int vs.toArray.size tk) E s :=
  le_ok (X.keeps kb) (T.keeps kb) hh hroom (kq _ _ hx) (kq _ _ hdx) hr hvs
end
local macro_rules | `(tactic| walk_at "call ref") => `(tactic| (k_here; (with_reducible show wpAny _ _ (call (Value.ref 166) _ _) _ _ _); k_dflt (refine' pk_K (gi_ok_q ?X ?T (Fr.keep ?F) ?hh ?room ?kq ?hx ?hdx ?hr ?rs ?vs ?l ?h1) ?F2 ?N ?_; (case X => k_asm); (case T => k_asm); (case F => k_asm); (case F2 => k_asm); (case N => k_asm); (case room => ktr_room); (case hh => first | assumption | rfl); (case hx => assumption); (case hdx => assumption); (case kq => first | exact Fr.keep (by k_asm) | exact fun b o e => Fr.keep (by k_asm) b o (Fr.keep (by assumption) b o e) | exact fun b o e => Fr.keep (by k_asm) b o (Fr.keep (by assumption) b o (Fr.keep (by assumption) b o e))); (case hr => first | exact News.get (by k_asm) (by k_mem) | exact Fr.keep (by k_asm) _ _ (by assumption)); (case rs => assumption); (case vs => assumption); (case l => first | assumption | decide); (case h1 => assumption); k_whole); intro v' h' tk' g' kp' F' N'; (try k_sweep)))
local macro_rules | `(tactic| walk_at "call ref") => `(tactic| (k_here; (with_reducible show wpAny _ _ (call (Value.ref 173) _ _) _ _ _); k_dflt (refine' pk_K (co_ok_q ?X ?T (Fr.keep ?F) ?hh ?room ?kq ?hx ?hdx ?hr ?rs ?vs ?l ?h1) ?F2 ?N ?_; (case X => k_asm); (case T => k_asm); (case F => k_asm); (case F2 => k_asm); (case N => k_asm); (case room => ktr_room); (case hh => first | assumption | rfl); (case hx => assumption); (case hdx => assumption); (case kq => first | exact Fr.keep (by k_asm) | exact fun b o e => Fr.keep (by k_asm) b o (Fr.keep (by assumption) b o e) | exact fun b o e => Fr.keep (by k_asm) b o (Fr.keep (by assumption) b o (Fr.keep (by assumption) b o e))); (case hr => first | exact News.get (by k_asm) (by k_mem) | exact Fr.keep (by k_asm) _ _ (by assumption)); (case rs => assumption); (case vs => assumption); (case l => first | assumption | decide); (case h1 => assumption); k_whole); intro v' h' tk' g' kp' F' N'; subst g'; (try k_sweep)))
local macro_rules | `(tactic| walk_at "call ref") => `(tactic| (k_here; (with_reducible show wpAny _ _ (call (Value.ref 147) _ _) _ _ _); k_dflt (refine' pk_K (le_ok_q ?X ?T (Fr.keep ?F) ?hh ?room ?kq ?hx ?hdx ?hr ?vs) ?F2 ?N ?_; (case X => k_asm); (case T => k_asm); (case F => k_asm); (case F2 => k_asm); (case N => k_asm); (case room => ktr_room); (case hh => first | assumption | rfl); (case hx => assumption); (case hdx => assumption); (case kq => first | exact Fr.keep (by k_asm) | exact fun b o e => Fr.keep (by k_asm) b o (Fr.keep (by assumption) b o e) | exact fun b o e => Fr.keep (by k_asm) b o (Fr.keep (by assumption) b o (Fr.keep (by assumption) b o e))); (case hr => first | exact News.get (by k_asm) (by k_mem) | exact Fr.keep (by k_asm) _ _ (by assumption)); (case vs => assumption); k_whole); intro v' h' tk' g' kp' F' N'; (obtain ⟨tk9, e9⟩ := g'; subst e9); (try k_sweep)))
section
variable {prog : Program} {w : World} {A : Around} {s : Shared} {loose : List Str} {mean : ExcName → Option Value} {mg mb : Str → Option Value} {E : Value → Shared → Prop}
  {x dx r : Addr} {hsh : Int} {ktk : Tok} {vs : List Value} {n : Nat} {rs : List (Str × Str)} {nm : Str} {t : Tok}
theorem getitem_ok (X : (hd.heap_1 w.params).In s.heap) (T : Top vwP loose mean mg mb s.heap) (hh : A.handled = none) (hroom : A.depth + 12 < recursionLimit)
    (hx : s.heap.get? x = some (instObj 239 dx)) (hdx : s.heap.get? dx = some (dictOf [⟨hsh, .str (Str.ofString "_headers") ktk, .ref r⟩] 1)) (hr : s.heap.get? r = some (listOf vs.toArray n))
    (hrs : Rows s.heap vs rs) (hvs : vs.length ≤ 100) (hl : nm.length ≤ 100) (h1 : hits code105 (Txt.lower nm) = some false) : wpAny (model prog w) A (call (.ref 59) [.ref x, .str nm t]) (PK s fun _ v => GetIs rs (Txt.lower nm) v) E s := by
  refine wpAny_call ?_
  k_dflt (refine' callP X T.nolimit ?k6 ?k7 ?k8 ?k9 ?kB ?_ ?c5 ?c2 ?c3 ?c4; (case k6 => k_is); (case k7 => k_is); (case k8 => omega); (case k9 => first | exact BindsTo.of_eq rfl | exact binds_K (by k_in) rfl (by k_is) rfl rfl rfl); (case c5 => decide); (case kB => exact locs rfl); (case c2 => exact rfl); (case c3 => exact rfl); (case c4 => exact rfl))
  intro h1 F1
  have N1 : News s.heap s.heap.objs.size h1 [] := News.nil
  k_steps
  exact PK.of (by assumption) (by assumption)
theorem getitem_ok_q {hb hq : Heap} (X : (hd.heap_1 w.params).In hb) (T : Top vwP loose mean mg mb hb) (kb : ∀ b o, hb.get? b = some o → s.heap.get? b = some o) (hh : A.handled = none) (hroom : A.depth + 12 < recursionLimit)
    (kq : ∀ b o, hq.get? b = some o → s.heap.get? b = some o) (hx : hq.get? x = some (instObj 239 dx)) (hdx : hq.get? dx = some (dictOf [⟨hsh, .str (Str.ofString "_headers") ktk, .ref r⟩] 1)) (hr : s.heap.get? r = some (listOf vs.toArray n))
    (hrs : Rows hq vs rs) (hvs : vs.length ≤ 100) (hl : nm.length ≤ 100) (h1 : hits code105 (Txt.lower nm) = some false) : wpAny (model prog w) A (call (.ref 59) [.ref x, .str nm t]) (PK s fun _ v => GetIs rs (Txt.lower nm) v) E s :=
  getitem_ok (X.keeps kb) (T.keeps kb) hh hroom (kq _ _ hx) (kq _ _ hdx) hr (hrs.keeps kq) hvs hl h1
theorem contains_ok (X : (hd.heap_1 w.params).In s.heap) (T : Top vwP loose mean mg mb s.heap) (hh : A.handled = none) (hroom : A.depth + 12 < recursionLimit)
    (hx : s.heap.get? x = some (instObj 239 dx)) (hdx : s.heap.get? dx = some (dictOf [⟨hsh, .str (Str.ofString "_headers") ktk, .ref r⟩] 1)) (hr : s.heap.get? r = some (listOf vs.toArray n))
    (hrs : Rows s.heap vs rs) (hvs : vs.length ≤ 100) (hl : nm.length ≤ 100) (h1 : hits code105 (Txt.lower nm) = some false) : wpAny (model prog w) A (call (.ref 38) [.ref x, .str nm t]) (PK s fun _ v => v = .bool (rs.find? (fun q => decide (Txt.lower q.1 = Txt.lower nm))).isSome) E s := by
  refine wpAny_call ?_
  k_dflt (refine' callP X T.nolimit ?k6 ?k7 ?k8 ?k9 ?kB ?_ ?c5 ?c2 ?c3 ?c4; (case k6 => k_is); (case k7 => k_is); (case k8 => omega); (case k9 => first | exact BindsTo.of_eq rfl | exact binds_K (by k_in) rfl (by k_is) rfl rfl rfl); (case c5 => decide); (case kB => exact locs rfl); (case c2 => exact rfl); (case c3 => exact rfl); (case c4 => exact rfl))
  intro h1 F1
  have N1 : News s.heap s.heap.objs.size h1 [] := News.nil
  k_steps
  exact PK.of (by assumption) rfl
theorem contains_ok_q {hb hq : Heap} (X : (hd.heap_1 w.params).In hb) (T : Top vwP loose mean mg mb hb) (kb : ∀ b o, hb.get? b = some o → s.heap.get? b = some o) (hh : A.handled = none) (hroom : A.depth + 12 < recursionLimit)
    (kq : ∀ b o, hq.get? b = some o → s.heap.get? b = some o) (hx : hq.get? x = some (instObj 239 dx)) (hdx : hq.get? dx = some (dictOf [⟨hsh, .str (Str.ofString "_headers") ktk, .ref r⟩] 1)) (hr : s.heap.get? r = some (listOf vs.toArray n))
    (hrs : Rows hq vs rs) (hvs : vs.length ≤ 100) (hl : nm.length ≤ 100) (h1 : hits code105 (Txt.lower nm) = some false) : wpAny (model prog w) A (call (.ref 38) [.ref x, .str nm t]) (PK s fun _ v => v = .bool (rs.find? (fun q => decide (Txt.lower q.1 = Txt.lower nm))).isSome) E s :=
  contains_ok (X.keeps kb) (T.keeps kb) hh hroom (kq _ _ hx) (kq _ _ hdx) hr (hrs.keeps kq) hvs hl h1
theorem hint_ok (X : (hd.heap_1 w.params).In s.heap) (T : Top vwP loose mean mg mb s.heap) (hh : A.handled = none) (hroom : A.depth + 12 < recursionLimit)
    (hx : s.heap.get? x = some (instObj 239 dx)) (hdx : s.heap.get? dx = some (dictOf [⟨hsh, .str (Str.ofString "_headers") ktk, .ref r⟩] 1)) (hr : s.heap.get? r = some (listOf vs.toArray n))
    (hvs : vs.length ≤ 100) : wpAny (model prog w) A (call (.ref 81) [.ref x]) (PK s fun _ v => ∃ tk, v = .int vs.toArray.size tk) E s := by
  refine wpAny_call ?_
  k_dflt (refine' callP X T.nolimit ?k6 ?k7 ?k8 ?k9 ?kB ?_ ?c5 ?c2 ?c3 ?c4; (case k6 => k_is); (case k7 => k_is); (case k8 => omega); (case k9 => first | exact BindsTo.of_eq rfl | exact binds_K (by k_in) rfl (by k_is) rfl rfl rfl); (case c5 => decide); (case kB => exact locs rfl); (case c2 => exact rfl); (case c3 => exact rfl); (case c4 => exact rfl))
  intro h1 F1
  have N1 : News s.heap s.heap.objs.size h1 [] := News.nil
  have hl : s.heap.IsList r vs.toArray := ⟨_, hr, rfl, n, rfl⟩
  have hvs2 : vs.toArray.size ≤ 1000 := Nat.le_trans hvs (by decide)
  k_steps
  exact ⟨⟨by omega, by omega⟩, PK.of (by assumption) ⟨_, rfl⟩⟩
theorem hint_ok_q {hb hq : Heap} (X : (hd.heap_1 w.params).In hb) (T : Top vwP loose mean mg mb hb) (kb : ∀ b o, hb.get? b = some o → s.heap.get? b = some o) (hh : A.handled = none) (hroom : A.depth + 12 < recursionLimit)
    (kq : ∀ b o, hq.get? b = some o → s.heap.get? b = some o) (hx : hq.get? x = some (instObj 239 dx)) (hdx : hq.get? dx = some (dictOf [⟨hsh, .str (Str.ofString "_headers") ktk, .ref r⟩] 1)) (hr : s.heap.get? r = some (listOf vs.toArray n))
    (hvs : vs.length ≤ 100) : wpAny (model prog w) A (call (.ref 81) [.ref x]) (PK s fun _ v => ∃ tk, v = .int vs.toArray.size tk) E s :=
  hint_ok (X.keeps kb) (T.keeps kb) hh hroom (kq _ _ hx) (kq _ _ hdx) hr hvs
theorem items_ok (X : (hd.heap_1 w.params).In s.heap) (T : Top vwP loose mean mg mb s.heap) (hh : A.handled = none) (hroom : A.depth + 8 < recursionLimit)
    (hx : s.heap.get? x = some (instObj 239 dx)) (hdx : s.heap.get? dx = some (dictOf [⟨hsh, .str (Str.ofString "_headers") ktk, .ref r⟩] 1)) (hr : s.heap.get? r = some (listOf vs.toArray n))
    (hvs : vs.length ≤ 100) : wpAny (model prog w) A (call (.ref 203) [.ref x]) (PK s fun h v => ∃ a, v = .ref a ∧ h.IsList a vs.toArray) E s := by
  refine wpAny_call ?_
  k_dflt (refine' callP X T.nolimit ?k6 ?k7 ?k8 ?k9 ?kB ?_ ?c5 ?c2 ?c3 ?c4; (case k6 => k_is); (case k7 => k_is); (case k8 => omega); (case k9 => first | exact BindsTo.of_eq rfl | exact binds_K (by k_in) rfl (by k_is) rfl rfl rfl); (case c5 => decide); (case kB => exact locs rfl); (case c2 => exact rfl); (case c3 => exact rfl); (case c4 => exact rfl))
  intro h1 F1
  have N1 : News s.heap s.heap.objs.size h1 [] := News.nil
  have hl : s.heap.IsList r vs.toArray := ⟨_, hr, rfl, n, rfl⟩
  have hvs2 : vs.toArray.size ≤ 1000 := Nat.le_trans hvs (by decide)
  k_steps
  (rename News _ _ _ _ => N9)
  dsimp only
  have q9 := (N9 _ (List.Mem.head _)).1
  rw [pick_all] at q9
  exact PK.of (by assumption) ⟨_, rfl, _, q9, rfl, _, rfl⟩
theorem items_ok_q {hb hq : Heap} (X : (hd.heap_1 w.params).In hb) (T : Top vwP loose mean mg mb hb) (kb : ∀ b o, hb.get? b = some o → s.heap.get? b = some o) (hh : A.handled = none) (hroom : A.depth + 8 < recursionLimit)
    (kq : ∀ b o, hq.get? b = some o → s.heap.get? b = some o) (hx : hq.get? x = some (instObj 239 dx)) (hdx : hq.get? dx = some (dictOf [⟨hsh, .str (Str.ofString "_headers") ktk, .ref r⟩] 1)) (hr : s.heap.get? r = some (listOf vs.toArray n))
    (hvs : vs.length ≤ 100) : wpAny (model prog w) A (call (.ref 203) [.ref x]) (PK s fun h v => ∃ a, v = .ref a ∧ h.IsList a vs.toArray) E s :=
  items_ok (X.keeps kb) (T.keeps kb) hh hroom (kq _ _ hx) (kq _ _ hdx) hr hvs
end
end
end
end

section
theorem resetDue : True := by w_top off; trivial
local macro_rules | `(tactic| walk_at "call ref") => `(tactic| (k_here; (with_reducible show wpAny _ _ (call (Value.ref 264) _ _) _ _ _); k_dflt (refine' pk_K (written_ok (Frag.In.keeps ?X (Fr.keep ?F1)) (Top.keeps ?T (Fr.keep ?F2)) ?hh ?r ?ht ?hs) ?F ?N ?_; (case X => k_asm); (case T => k_asm); (case F1 => k_asm); (case F2 => k_asm); (case F => k_asm); (case N => k_asm); (case r => ktr_room); (case hh => first | assumption | rfl); (case ht => first | assumption | exact ThAt.keeps (by assumption) (Fr.keep (by k_asm))); (case hs => assumption); k_whole); intro v' h' tk' g' kp' F' N'; obtain ⟨tk9, e9⟩ := g'; subst e9; (try k_sweep)))
local macro_rules | `(tactic| walk_at "binaryOp Add ref ref") => `(tactic| (k_here; k_dflt (refine' addL_K ?F ?N ?a ?b ?z ?_; (case F => k_asm); (case N => k_asm); (case a => exact led_list (by k_asm) (by k_mem)); (case b => exact led_list (by k_asm) (by k_mem)); (case z => (simp only [List.length_cons, List.length_nil]; omega))); intro D' h' F' N' l1; (try k_lt l1); (try k_sweep)))
local macro_rules | `(tactic| walk_at "subscriptTail") => `(tactic| (k_here; (with_reducible show wpAny _ _ (subscriptTail _ _ (Value.ref _) (Value.int 0 _)) _ _ _); k_dflt (refine' menu_at ?N ?m ?h0 ?hhi ?hx ?_ ?s; (case N => k_asm); (case m => k_mem); (case h0 => decide); (case hhi => decide); (case hx => rfl); (case s => with_unfolding_all rfl); k_whole)))

structure Ent where
  g : Int
  nm : Str
  th : Th
def EntAt (h : Heap) (v : Value) (e : Ent) : Prop := ∃ a tg tn tv, v = .ref a ∧ IsTup h a #[.int e.g tg, .str e.nm tn, tv] ∧ ThAt h tv e.th ∧ e.th.short
theorem EntAt.keeps {h h' : Heap} {v : Value} {e : Ent} (x : EntAt h v e) (k : ∀ b o, h.get? b = some o → h'.get? b = some o) : EntAt h' v e := by
  obtain ⟨a, tg, tn, tv, q, i, t, z⟩ := x
  exact ⟨a, tg, tn, tv, q, i.keeps k, t.keeps k, z⟩
abbrev Ents (h : Heap) (vs : List Value) (ks : List Ent) : Prop := PySem.Paired (EntAt h) vs ks
theorem Ents.keeps {h h' : Heap} {vs : List Value} {ks : List Ent} (x : Ents h vs ks) (k : ∀ b o, h.get? b = some o → h'.get? b = some o) : Ents h' vs ks := PySem.Paired.mono (fun _ _ y => y.keeps k) x
def dueK (k : Int) (ks : List Ent) (e : Ent) : List Ent :=
  if k = 0 then ks.filter (fun q => decide (q.g ≠ e.g)) ++ [e] else if k = 1 then ks ++ [e] else if k = 2 then (if ks.filter (fun q => decide (q.g = e.g)) = [] then ks ++ [e] else ks) else
  if k = 3 ∨ k = 4 ∨ k = 5 then ks.filter (fun q => decide (q.g ≠ e.g)) else if k = 6 then ks else if k = 7 then ks ++ [e] else ks.drop 1
def dueV (k : Int) (ks : List Ent) (e : Ent) (v : Value) : Prop :=
  if k = 2 then (match ks.find? (fun q => decide (q.g = e.g)) with | none => ∃ t, v = .str (wr e.th) t | some q => ∃ t, v = .str (wr q.th) t) else
  if k = 4 ∨ k = 6 then ∃ t, v = .str (Str.ofString "refused") t else if k = 5 then ∃ t, v = .str (Str.ofString "no text") t else if k = 7 then v = .bool true else v = .none
def DueAt (s : Shared) (kp0 : Addr) (h : Heap) (v : Value) (k : Int) (ks : List Ent) (e : Ent) : Prop := ∃ a dv kp vs', v = .ref a ∧ IsTup h a #[dv, .ref kp] ∧ dueV k ks e dv ∧ h.IsList kp vs'.toArray ∧ Ents h vs' (dueK k ks e) ∧ (kp = kp0 ∨ s.heap.get? kp = none)
theorem none_of {h g : Heap} {b : Addr} (k : ∀ b o, h.get? b = some o → g.get? b = some o) (hn : g.get? b = none) : h.get? b = none := by
  cases q : h.get? b with
  | none => rfl
  | some o => have := k _ _ q; rw [hn] at this; cases this
theorem News.addL {h₀ h h' : Heap} {L D : Addr} {m : Str → Option Value} {news : List (Addr × Obj)} {o : Obj} (F : Fr h₀ L h m) (N : News h₀ L h news) (k : ∀ b ob, b ≠ L → h.get? b = some ob → h'.get? b = some ob) (hD : h.get? D = none) (hg : h'.get? D = some o) :
    News h₀ L h' ((D, o) :: news) := by
  intro p hp
  rcases List.mem_cons.mp hp with rfl | hp
  · refine ⟨hg, fun e => ?_, ?_⟩
    · obtain ⟨oL, _, _, hL, _⟩ := F.ns
      have e' : D = L := e
      rw [← e', hD] at hL
      cases hL
    · show h₀.get? D = none
      cases q : h₀.get? D with
      | none => rfl
      | some ob =>
        have := F.keep _ _ q
        rw [hD] at this
        cases this
  · exact ⟨k _ _ (N p hp).2.1 (N p hp).1, (N p hp).2⟩
theorem Fr.keepL {h₀ h h' : Heap} {L : Addr} {m m' : Str → Option Value} (F : Fr h₀ L h m) (hn : h'.Ns L m') (k : ∀ b ob, b ≠ L → h.get? b = some ob → h'.get? b = some ob) : Fr h₀ L h' m' :=
  ⟨hn, fun b o e => k b o (fun q => Nat.lt_irrefl _ (Nat.lt_of_lt_of_le (q ▸ Heap.lt_size e) F.above)) (F.keep b o e), F.above⟩

theorem bne_decI (a b : Int) : (a != b) = decide (a ≠ b) := by
  by_cases h : a = b
  · subst h; simp
  · simp [h]
section
variable {prog : Program} {w : World} {A : Around} {E : Value → Shared → Prop} {s : Shared} {h₀ : Heap} {L a b : Addr} {m : Str → Option Value} {news : List (Addr × Obj)} {vs ws : List Value} {Q : Value → Shared → Prop}
theorem addL_K (F : Fr h₀ L s.heap m) (N : News h₀ L s.heap news) (ha : s.heap.IsList a vs.toArray) (hb : s.heap.IsList b ws.toArray) (hz : vs.length + ws.length ≤ 1000)
    (h : ∀ D h', Fr h₀ L h' m → News h₀ L h' ((D, listOf (vs ++ ws).toArray 0) :: news) → (∀ p ∈ news, p.1 < D) → Q (.ref D) { s with heap := h' }) : wpAny (model prog w) A (binaryOp .Add (.ref a) (.ref b)) Q E s :=
  add_lists F N ha hb (fun h' F' N' => h _ h' F' N' fun p hp => Heap.lt_size (N p hp).1) (Nat.le_trans hz (by decide))
theorem eq_nil (hl : s.heap.IsList a vs.toArray) (hb : s.heap.IsList b (#[] : Array Value)) (hu : A.units < cLine) (h : Q (.bool vs.isEmpty) s) : wpAny (model prog w) A (compareOp .Eq (.ref a) (.ref b)) Q E s := by
  cases vs with
  | nil => exact PySem.SeqAt.eq_listAt (e := fun _ => true) hl hb rfl hu (fun j h1 => absurd h1 (Nat.not_lt_zero _)) h
  | cons v r => exact PySem.SeqAt.eq_list_lengthsAt hl hb (by simp) hu h
end
theorem due_end {s : Shared} {h' : Heap} {tk : Nat} {D kp kp0 : Addr} {dv : Value} {vs' : List Value} {k : Int} {ks : List Ent} {e : Ent} (kk : ∀ b o, s.heap.get? b = some o → h'.get? b = some o)
    (hD : h'.get? D = some { cls := .type "tuple", data := .seq #[dv, .ref kp] }) (hv : dueV k ks e dv) (hl : h'.IsList kp vs'.toArray) (hE : Ents h' vs' (dueK k ks e)) (hf : kp = kp0 ∨ s.heap.get? kp = none) : PK s (fun h v => DueAt s kp0 h v k ks e) (.ref D) { s with heap := h', toks := tk } :=
  ⟨⟨D, dv, kp, vs', rfl, ⟨_, hD, rfl, _, rfl⟩, hv, hl, hE, hf⟩, h', tk, rfl, kk⟩
theorem paired_pushG {α : Type} {R : Value → α → Prop} {vs : List Value} {rs : List α} {v : Value} {q : α} (h : PySem.Paired R vs rs) (hv : R v q) : PySem.Paired R (vs ++ [v]) (rs ++ [q]) := by
  induction h with
  | nil => exact .cons hv .nil
  | cons a _ ih => exact .cons a ih
theorem dueV_none {k : Int} {ks : List Ent} {e : Ent} (hk : k = 0 ∨ k = 1 ∨ k = 3 ∨ k = 8) : dueV k ks e .none := by rcases hk with rfl | rfl | rfl | rfl <;> rfl
theorem dueV_ref {k : Int} {ks : List Ent} {e : Ent} {t : Tok} (hk : k = 4 ∨ k = 6) : dueV k ks e (.str (Str.ofString "refused") t) := by
  unfold dueV; rw [if_neg (by omega), if_pos (by omega)]; exact ⟨_, rfl⟩
theorem dueV_notext {ks : List Ent} {e : Ent} {t : Tok} : dueV 5 ks e (.str (Str.ofString "no text") t) := by
  unfold dueV; rw [if_neg (by omega), if_neg (by omega), if_pos (by omega)]; exact ⟨_, rfl⟩
theorem dueV_true {ks : List Ent} {e : Ent} : dueV 7 ks e (.bool true) := by
  unfold dueV; rw [if_neg (by omega), if_neg (by omega), if_neg (by omega), if_pos (by omega)]
theorem dueK_0 {ks : List Ent} {e : Ent} : dueK 0 ks e = ks.filter (fun q => decide (q.g ≠ e.g)) ++ [e] := rfl
theorem dueK_17 {k : Int} {ks : List Ent} {e : Ent} (hk : k = 1 ∨ k = 7) : dueK k ks e = ks ++ [e] := by rcases hk with rfl | rfl <;> rfl
theorem dueK_345 {k : Int} {ks : List Ent} {e : Ent} (hk : k = 3 ∨ k = 4 ∨ k = 5) : dueK k ks e = ks.filter (fun q => decide (q.g ≠ e.g)) := by rcases hk with rfl | rfl | rfl <;> rfl
theorem dueK_6 {ks : List Ent} {e : Ent} : dueK 6 ks e = ks := rfl
theorem dueK_8 {ks : List Ent} {e : Ent} : dueK 8 ks e = ks.drop 1 := rfl
theorem paired_drop1 {α : Type} {R : Value → α → Prop} {vs : List Value} {rs : List α} (h : PySem.Paired R vs rs) : PySem.Paired R (vs.drop 1) (rs.drop 1) := by
  cases h with
  | nil => exact .nil
  | cons a r => exact r
theorem pick_from1 (vs : List Value) : slicePick vs.toArray (some 1) none none = (vs.drop 1).toArray := by
  rw [kms_pick_eq]
  unfold kms_pick
  cases vs with
  | nil => rfl
  | cons v r =>
    show ((List.drop (kms_lo (some 1) (r.length + 1)) (v :: r)).take (kms_hi none (r.length + 1) - kms_lo (some 1) (r.length + 1))).toArray = _
    have e1 : kms_lo (some 1) (r.length + 1) = 1 := by simp [kms_lo]
    have e2 : kms_hi none (r.length + 1) = r.length + 1 := by simp [kms_hi]
    rw [e1, e2]
    simp
theorem dueV_2a {ks : List Ent} {e : Ent} {t : Tok} (h : ks.filter (fun q => decide (q.g = e.g)) = []) : dueV 2 ks e (.str (wr e.th) t) := by
  have q : ks.find? (fun q => decide (q.g = e.g)) = none := by
    rw [← List.head?_filter, h]; rfl
  unfold dueV; rw [if_pos (by omega), q]; exact ⟨_, rfl⟩
theorem dueV_2b {ks : List Ent} {e q : Ent} {l : List Ent} {t : Tok} (h : ks.filter (fun q => decide (q.g = e.g)) = q :: l) : dueV 2 ks e (.str (wr q.th) t) := by
  have q : ks.find? (fun q => decide (q.g = e.g)) = some q := by
    rw [← List.head?_filter, h]; rfl
  unfold dueV; rw [if_pos (by omega), q]; exact ⟨_, rfl⟩
theorem dueK_2a {ks : List Ent} {e : Ent} (h : ks.filter (fun q => decide (q.g = e.g)) = []) : dueK 2 ks e = ks ++ [e] := by
  unfold dueK; rw [if_neg (by omega), if_neg (by omega), if_pos (by omega), if_pos h]
theorem dueK_2b {ks : List Ent} {e q : Ent} {l : List Ent} (h : ks.filter (fun q => decide (q.g = e.g)) = q :: l) : dueK 2 ks e = ks := by
  unfold dueK; rw [if_neg (by omega), if_neg (by omega), if_pos (by omega), if_neg (by rw [h]; exact fun x => nomatch x)]
theorem due_ok {prog : Program} {w : World} {A : Around} {s : Shared} {loose : List Str} {mean : ExcName → Option Value} {mg mb : Str → Option Value} {E : Value → Shared → Prop}
    (X : (hd.heap_1 w.params).In s.heap) (T : Top vwP loose mean mg mb s.heap) (hh : A.handled = none) (hroom : A.depth + 8 < recursionLimit) (hu : A.units + 100 < cLine) {kp : Addr} {vs : List Value} {ks : List Ent} (hkl : s.heap.IsList kp vs.toArray)
    (hks : Ents s.heap vs ks) (hvs : vs.length ≤ 100) {k : Int} {tk : Tok} (h0 : 0 ≤ k) (h9 : k < 9) {nv : Value} {e : Ent} (hn : EntAt s.heap nv e) :
    wpAny (model prog w) A (call (.ref 276) [.ref kp, .int k tk, nv]) (PK s fun h v => DueAt s kp h v k ks e) E s := by
  obtain ⟨na, tg, tn, tv, rfl, hni, hnt, hns⟩ := hn
  refine wpAny_call ?_
  k_dflt (refine' callNC (news := []) X T.nolimit ?N0 ?k6 ?k7 ?k8 ?k9 ?kB ?kD ?_ ?c2 ?c3 ?c4; (case N0 => intro p hp; cases hp); (case k6 => k_is); (case k7 => k_is); (case k8 => omega); (case k9 => exact BindsTo.of_eq rfl); (case kB => exact rfl); (case kD => decide +kernel); (case c2 => exact rfl); (case c3 => exact rfl); (case c4 => exact rfl))
  intro g h1 tk1 cells keep back F1 N1 Y hlt
  have kg : ∀ b o, s.heap.get? b = some o → g.get? b = some o := fun b o q => keep b o q fun _ hp => nomatch hp
  replace X := X.keeps kg
  replace T := T.keeps kg
  replace hks := hks.keeps kg
  replace hni := hni.keeps kg
  replace hnt := hnt.keeps kg
  have hkl : g.IsList kp vs.toArray := hkl.at fun o q => kg _ _ q
  k_cells Y
  simp only [List.cons_append, List.nil_append] at N1
  k_steps
  (rename News _ _ _ _ => N2)
  (rename Fr _ _ _ _ => F2)
  try simp only [List.nil_append] at N2
  (rename Obj => oc)
  (rename oc.data = _ => hoc)
  replace hoc : oc.data = .cell (some (.ref na)) := hoc
  have hc2 := (N2 _ (List.Mem.head _)).1
  (with_reducible refine' assignCompG (P := EntAt g) (p := fun q => decide (q.g = e.g)) (G := fun _ y q => EntAt g y q) (fun _ _ _ _ _ z => z) ?h0 ?hsw ?h1 ?h2 ?h3 ?h4 ?h5 ?hy ?hp ?_ ?h6); (case h0 => exact hh); (case hsw => with_unfolding_all rfl); (case h1 => with_unfolding_all rfl); (case h2 => decide); (case h3 => with_unfolding_all rfl); (case h4 => decide); (case h5 => with_unfolding_all rfl); (case hy => with_unfolding_all rfl); (case hp => with_unfolding_all rfl); (case h6 => intro _; with_unfolding_all rfl)
  walk1
  refine ⟨kp, vs, ks, _, rfl, hkl.at fun o q => F2.keep _ _ q, hks, Nat.le_trans hvs (by decide), F2.ns, ?_, ?_, ?_⟩
  · intro C v q h3 tk3 m3 l3 E3 hC hP F3 hm N3
    obtain ⟨a3, u1, u2, u3, rfl, i3, _⟩ := hP
    have i3' := i3.keeps F2.keep
    have hni' := hni.keeps F2.keep
    refine wpAny_tests_one ?_
    k_steps
    exact ⟨_, _, [], rfl, by assumption, by assumption, fun _ h => (nomatch h), rfl⟩
  · intro C v q h3 tk3 m3 l3 E3 hC hP hp F3 hm N3
    have hP3 := hP
    obtain ⟨a3, u1, u2, u3, rfl, i3, _⟩ := hP
    k_steps
    exact ⟨_, _, [], rfl, F3, N3, fun _ h => (nomatch h), hP3⟩
  · intro D h3 tk3 ys n3 tl hD hgD hns3 hk3 htl hys
    have F3 := Fr.keepL F2 hns3 hk3
    have N3 := News.addL F2 N2 hk3 hD hgD
    have hc3 := (N3 _ (List.Mem.tail _ (List.Mem.head _))).1
    clear hk3 hns3 F2 N2 htl hc2
    k_steps
    (rename News _ _ _ _ => N4)
    (rename Fr _ _ _ _ => F4)
    (with_reducible refine' assignCompG (P := EntAt g) (p := fun q => decide (q.g ≠ e.g)) (G := fun _ y q => EntAt g y q) (fun _ _ _ _ _ z => z) ?h0 ?hsw ?h1 ?h2 ?h3 ?h4 ?h5 ?hy ?hp ?_ ?h6); (case h0 => exact hh); (case hsw => with_unfolding_all rfl); (case h1 => with_unfolding_all rfl); (case h2 => decide); (case h3 => with_unfolding_all rfl); (case h4 => decide); (case h5 => with_unfolding_all rfl); (case hy => with_unfolding_all rfl); (case hp => with_unfolding_all rfl); (case h6 => intro _; with_unfolding_all rfl)
    walk1
    refine ⟨kp, vs, ks, _, rfl, hkl.at fun o q => F4.keep _ _ q, hks, Nat.le_trans hvs (by decide), F4.ns, ?_, ?_, ?_⟩
    · intro C v q h3 tk3 m3 l3 E3 hC hP F3 hm N3
      obtain ⟨a3, u1, u2, u3, rfl, i3, _⟩ := hP
      have i3' := i3.keeps F4.keep
      have hni' := hni.keeps F4.keep
      refine wpAny_tests_one ?_
      k_steps
      exact ⟨_, _, [], rfl, by assumption, by assumption, fun _ h => (nomatch h), bne_decI _ _⟩
    · intro C v q h3 tk3 m3 l3 E3 hC hP hp F3 hm N3
      have hP3 := hP
      obtain ⟨a3, u1, u2, u3, rfl, i3, _⟩ := hP
      k_steps
      exact ⟨_, _, [], rfl, F3, N3, fun _ h => (nomatch h), hP3⟩
    · intro D2 h5 tk5 ys2 n5 tl2 hD2 hgD2 hns5 hk5 htl2 hys2
      have F5 := Fr.keepL F4 hns5 hk5
      have N5 := News.addL F4 N4 hk5 hD2 hgD2
      clear hk5 hns5 F4 N4 htl2 hc3
      have hl2 : ys2.length ≤ 100 := by
        have e1 := hys2.length
        have e2 : (ks.filter fun q => decide (q.g ≠ e.g)).length ≤ ks.length := List.length_filter_le _ _
        have e3 := hks.length
        omega
      have he : EntAt g (.ref na) e := ⟨na, tg, tn, tv, rfl, hni, hnt, hns⟩
      k_steps
      · (rename News _ _ _ _ => N9)
        (rename Fr _ _ _ _ => F9)
        have hk : k = 0 := by omega
        subst hk
        exact due_end (fun b o q => F9.keep _ _ (kg _ _ q)) (N9 _ (List.Mem.head _)).1 (dueV_none (by simp)) (led_list N9 (List.Mem.tail _ (List.Mem.head _))) (by rw [dueK_0]; exact paired_pushG (Ents.keeps hys2 F9.keep) (he.keeps F9.keep)) (.inr (none_of kg (N9 _ (List.Mem.tail _ (List.Mem.head _))).2.2))
      · (rename News _ _ _ _ => N9)
        (rename Fr _ _ _ _ => F9)
        have hk : k = 1 := by omega
        subst hk
        exact due_end (fun b o q => F9.keep _ _ (kg _ _ q)) (N9 _ (List.Mem.head _)).1 (dueV_none (by simp)) (led_list N9 (List.Mem.tail _ (List.Mem.head _))) (by rw [dueK_17 (by simp)]; exact paired_pushG (hks.keeps F9.keep) (he.keeps F9.keep)) (.inr (none_of kg (N9 _ (List.Mem.tail _ (List.Mem.head _))).2.2))
      · (rename News _ _ _ _ => N9)
        (rename Fr _ _ _ _ => F9)
        have hk : k = 2 := by omega
        subst hk
        k_dflt (refine' eq_nil ?a ?b ?u ?_; (case a => exact led_list N9 (by k_mem)); (case b => exact led_list N9 (List.Mem.head _)); (case u => first | units_room | ktr_units | k_units))
        cases hq : ks.filter (fun q => decide (q.g = e.g)) with
        | nil =>
          rw [hq] at hys
          cases hys
          (try simp only [List.isEmpty_nil])
          k_steps
          (rename News _ _ _ _ => N8)
          (rename Fr _ _ _ _ => F8)
          exact due_end (fun b o q => F8.keep _ _ (kg _ _ q)) (N8 _ (List.Mem.head _)).1 (dueV_2a hq) (led_list N8 (List.Mem.tail _ (List.Mem.head _))) (by rw [dueK_2a hq]; exact paired_pushG (hks.keeps F8.keep) (he.keeps F8.keep)) (.inr (none_of kg (N8 _ (List.Mem.tail _ (List.Mem.head _))).2.2))
        | cons q qs =>
          rw [hq] at hys
          cases hys with
          | cons hq1 hqr =>
            obtain ⟨qa, qg, qn, qv, rfl, hqi, hqt, hqs⟩ := hq1
            (try simp only [List.isEmpty_cons])
            k_steps
            (rename News _ _ _ _ => N8)
            (rename Fr _ _ _ _ => F8)
            exact due_end (fun b o q => F8.keep _ _ (kg _ _ q)) (N8 _ (List.Mem.head _)).1 (dueV_2b hq) (hkl.at fun o q => F8.keep _ _ q) (by rw [dueK_2b hq]; exact hks.keeps F8.keep) (.inl rfl)
      · (rename News _ _ _ _ => N9)
        (rename Fr _ _ _ _ => F9)
        have hk : k = 3 := by omega
        subst hk
        exact due_end (fun b o q => F9.keep _ _ (kg _ _ q)) (N9 _ (List.Mem.head _)).1 (dueV_none (by simp)) (led_list N9 (List.Mem.tail _ (List.Mem.head _))) (by rw [dueK_345 (by simp)]; exact Ents.keeps hys2 F9.keep) (.inr (none_of kg (N9 _ (List.Mem.tail _ (List.Mem.head _))).2.2))
      · (rename News _ _ _ _ => N9)
        (rename Fr _ _ _ _ => F9)
        have hk : k = 4 := by omega
        subst hk
        exact due_end (fun b o q => F9.keep _ _ (kg _ _ q)) (N9 _ (List.Mem.head _)).1 (dueV_ref (by simp)) (led_list N9 (List.Mem.tail _ (List.Mem.head _))) (by rw [dueK_345 (by simp)]; exact Ents.keeps hys2 F9.keep) (.inr (none_of kg (N9 _ (List.Mem.tail _ (List.Mem.head _))).2.2))
      · (rename News _ _ _ _ => N9)
        (rename Fr _ _ _ _ => F9)
        have hk : k = 5 := by omega
        subst hk
        exact due_end (fun b o q => F9.keep _ _ (kg _ _ q)) (N9 _ (List.Mem.head _)).1 (dueV_notext) (led_list N9 (List.Mem.tail _ (List.Mem.head _))) (by rw [dueK_345 (by simp)]; exact Ents.keeps hys2 F9.keep) (.inr (none_of kg (N9 _ (List.Mem.tail _ (List.Mem.head _))).2.2))
      · (rename News _ _ _ _ => N9)
        (rename Fr _ _ _ _ => F9)
        have hk : k = 6 := by omega
        subst hk
        exact due_end (fun b o q => F9.keep _ _ (kg _ _ q)) (N9 _ (List.Mem.head _)).1 (dueV_ref (by simp)) (hkl.at fun o q => F9.keep _ _ q) (by rw [dueK_6]; exact hks.keeps F9.keep) (.inl rfl)
      · (rename News _ _ _ _ => N9)
        (rename Fr _ _ _ _ => F9)
        have hk : k = 7 := by omega
        subst hk
        exact due_end (fun b o q => F9.keep _ _ (kg _ _ q)) (N9 _ (List.Mem.head _)).1 (dueV_true) (led_list N9 (List.Mem.tail _ (List.Mem.head _))) (by rw [dueK_17 (by simp)]; exact paired_pushG (hks.keeps F9.keep) (he.keeps F9.keep)) (.inr (none_of kg (N9 _ (List.Mem.tail _ (List.Mem.head _))).2.2))
      · (rename News _ _ _ _ => N9)
        (rename Fr _ _ _ _ => F9)
        have hk : k = 8 := by omega
        subst hk
        rw [pick_from1] at N9
        exact due_end (vs' := vs.drop 1) (fun b o q => F9.keep _ _ (kg _ _ q)) (N9 _ (List.Mem.head _)).1 (dueV_none (by simp)) (led_list N9 (List.Mem.tail _ (List.Mem.head _))) (by rw [dueK_8]; exact paired_drop1 (hks.keeps F9.keep)) (.inr (none_of kg (N9 _ (List.Mem.tail _ (List.Mem.head _))).2.2))
end

section
theorem resetLoopH : True := by w_top off; trivial
/-- a goal that the walk is to leave as it stands -/
def Held (P : Prop) : Prop := P
theorem Held.out {P : Prop} (h : Held P) : P := h
theorem Held.mk {P : Prop} (h : P) : Held P := h
section
variable {prog : Program} {w : World} {A : Around} {s : Shared} {env : Env}
abbrev InvH := Nat → (Str → Option Value) → List (Addr × Obj) → Heap → Prop
/-- how a turn of a for ends, the heap told -/
def TurnEndH (h₀ : Heap) (L I : Addr) (oI : Obj) (s : Shared) (Inv : (Str → Option Value) → List (Addr × Obj) → Heap → Prop) (Q : Flow → Shared → Prop) (f : Flow) (s' : Shared) : Prop := match f with
  | .ret v => Q (.ret v) s'
  | .brk => Q .next s'
  | _ => ∃ h' tk m' led', s' = { s with heap := h', toks := tk } ∧ Fr h₀ L h' m' ∧ News h₀ L h' ((I, oI) :: led') ∧ (∀ q ∈ led', q.1 ≠ I) ∧ Inv m' led' h'
theorem forLoopH {target : PySem.Expr} {body orelse : List Stmt} {I ax L : Addr} {h₀ : Heap} {vs : List Value} {R : Result → Shared → Prop} {m : Str → Option Value} {led : List (Addr × Obj)} {oI : Obj} {N : Nat}
    (Inv : InvH) (hh : A.handled = none) (hN : N ≤ s.toks)
    (hst : ∀ i m led h h', Inv i m led h → (∀ b o, h.get? b = some o → o.cls ≠ .type "list_iterator" → h'.get? b = some o) → Inv i m led h')
    (hl : ∀ i m led h, Inv i m led h → Fr h₀ L h m → News h₀ L h led → h.IsList ax vs.toArray)
    (F : Fr h₀ L s.heap m) (Nw : News h₀ L s.heap ((I, oI) :: led)) (hoff : ∀ q ∈ led, q.1 ≠ I) (hI : oI.cls = .type "list_iterator" ∧ oI.data = .fields #[.ref ax, .int 0 0]) (h0 : Inv 0 m led s.heap)
    (turn : ∀ i v m led h tk oI (E' : Value → Shared → Prop), N ≤ tk → vs[i]? = some v → Inv i m led h → Fr h₀ L h m → News h₀ L h ((I, oI) :: led) → (∀ q ∈ led, q.1 ≠ I) → oI.cls = .type "list_iterator" →
      wpAny (model prog w) A (assign target env v) (fun _ s₂ => wpAny (model prog w) A (execs body env) (TurnEndH h₀ L I oI s (Inv (i + 1)) (fun f s' => R (.ok f) s')) E' s₂) E' { s with heap := h, toks := tk })
    (done : ∀ m led h tk (E' : Value → Shared → Prop), N ≤ tk → Inv vs.length m led h → Fr h₀ L h m → News h₀ L h led → wpAny (model prog w) A (execs orelse env) (fun f s' => R (.ok f) s') E' { s with heap := h, toks := tk }) :
    codeAny (model prog w) A (.forLoop target (.ref I) body orelse env) R s := by
  refine codeAny_forLoop_any
    (fun k s' => ∃ h' tk m' led' i oI', s' = { s with heap := h', toks := tk } ∧ N ≤ tk ∧ i ≤ vs.length ∧ k = vs.length + 1 - i ∧ Fr h₀ L h' m' ∧ News h₀ L h' ((I, oI') :: led') ∧ (∀ q ∈ led', q.1 ≠ I) ∧ (oI'.cls = .type "list_iterator" ∧ oI'.data = .fields #[.ref ax, .int i 0]) ∧ Inv i m' led' h') ?_ (vs.length + 1)
    ⟨s.heap, s.toks, m, led, 0, oI, rfl, hN, Nat.zero_le _, rfl, F, Nw, hoff, hI, h0⟩
  rintro k s' ⟨H, tk, m', led', i, oI', rfl, hNk, hi, rfl, F1, N1, hoff1, hI1, hInv⟩
  have nI := N1 _ (List.Mem.head _)
  have nI1 : H.get? I = some oI' := nI.1
  have nI2 : I ≠ L := nI.2.1
  have nI3 : h₀.get? I = none := nI.2.2
  have iI : H.IsListIter I ax i := ⟨oI', nI1, hI1.1, hI1.2⟩
  have N1' : News h₀ L H led' := fun q hq => N1 q (List.Mem.tail _ hq)
  have iL : H.IsList ax vs.toArray := hl _ _ _ _ hInv F1 N1'
  by_cases hlt : i < vs.length
  · have hv : vs[i]? = some vs[i] := List.getElem?_eq_getElem hlt
    refine wpAny_pyNext_list_item iI iL (x := vs[i]) (by simpa using hv) fun h₁ hit₁ hs₁ => ?_
    obtain ⟨oI₁, ho₁, hc₁, hd₁⟩ := hit₁
    have F2 : Fr h₀ L h₁ m' := F1.change hs₁ nI2 nI3
    have N2 : News h₀ L h₁ ((I, oI₁) :: led') := News.setAt (own := []) N1 (fun _ h => nomatch h) hoff1 hs₁ ho₁
    have hInv1 : Inv i m' led' h₁ := hst _ _ _ _ _ hInv fun b o e hc => hs₁.extBut b o (fun q => hc (by
      have q' : b = I := q
      rw [q', nI1] at e
      cases e
      exact hI1.1)) e
    refine letOwned_list ho₁ hc₁ ?_
    refine wpAny_with_toks (n := N) hNk (wpAny_mono (turn i _ m' led' h₁ tk oI₁ _ hNk hv hInv1 F2 N2 hoff1 hc₁) (fun _ s₂ h₂ hn₂ => wpAny_with_toks (n := N) hn₂ (wpAny_mono h₂ (fun f s₃ h₃ hn₃ => ?_) fun _ _ e => e)) fun _ _ e => e)
    have fin : (∃ h' tk m' led', s₃ = { s with heap := h', toks := tk } ∧ Fr h₀ L h' m' ∧ News h₀ L h' ((I, oI₁) :: led') ∧ (∀ q ∈ led', q.1 ≠ I) ∧ Inv (i + 1) m' led' h') →
        ∃ k', k' < vs.length + 1 - i ∧ ∃ h' tk m' led' i' oI', s₃ = { s with heap := h', toks := tk } ∧ N ≤ tk ∧ i' ≤ vs.length ∧ k' = vs.length + 1 - i' ∧ Fr h₀ L h' m' ∧ News h₀ L h' ((I, oI') :: led') ∧ (∀ q ∈ led', q.1 ≠ I) ∧ (oI'.cls = .type "list_iterator" ∧ oI'.data = .fields #[.ref ax, .int i' 0]) ∧ Inv i' m' led' h' := by
      rintro ⟨h', tk', m₂, led₂, e, F', N', ho', hv'⟩
      subst e
      exact ⟨vs.length + 1 - (i + 1), by omega, h', tk', m₂, led₂, i + 1, oI₁, rfl, hn₃, hlt, rfl, F', N', ho', ⟨hc₁, hd₁⟩, hv'⟩
    cases f with
    | ret v => exact h₃
    | brk => exact h₃
    | next => exact fin h₃
    | cont => exact fin h₃
  · have hin : i = vs.length := by omega
    refine wpAny_pyNext_list_end hh iI iL (by simp [hin]) fun h₁ hk₁ => ?_
    have F2 : Fr h₀ L h₁ m' := ⟨F1.ns.at' fun o e => hk₁ _ o (Ne.symm nI2) e, fun b o e => hk₁ b o (fun q => by rw [q, nI3] at e; cases e) (F1.keep b o e), F1.above⟩
    refine done m' led' h₁ tk _ hNk (hin ▸ hst _ _ _ _ _ hInv fun b o e hc => hk₁ b o (fun q => hc (by
      have q' : b = I := q
      rw [q', nI1] at e
      cases e
      exact hI1.1)) e) F2 (fun q hq => ?_)
    have hN := N1' q hq
    exact ⟨hk₁ _ _ (hoff1 q hq) hN.1, hN.2⟩

def ForSrcH (prog : Program) (w : World) (A : Around) (env : Env) (target : PySem.Expr) (body orelse : List Stmt) (L : Addr) (h₀ : Heap) (Q : Flow → Shared → Prop) (xv : Value) (s₁ : Shared) : Prop :=
  ∃ ax, ∃ vs : List Value, ∃ m led, ∃ N : Nat, ∃ Inv : InvH, xv = .ref ax ∧ N ≤ s₁.toks ∧ Fr h₀ L s₁.heap m ∧ News h₀ L s₁.heap led ∧ Inv 0 m led s₁.heap ∧
      (∀ i m led h h', Inv i m led h → (∀ b o, h.get? b = some o → o.cls ≠ .type "list_iterator" → h'.get? b = some o) → Inv i m led h') ∧
      (∀ i m led h, Inv i m led h → Fr h₀ L h m → News h₀ L h led → h.IsList ax vs.toArray) ∧
      (∀ I i v m led h tk oI (E' : Value → Shared → Prop), N ≤ tk → vs[i]? = some v → Inv i m led h → Fr h₀ L h m → News h₀ L h ((I, oI) :: led) → (∀ q ∈ led, q.1 ≠ I) → oI.cls = .type "list_iterator" →
        wpAny (model prog w) A (assign target env v) (fun _ s₂ => wpAny (model prog w) A (execs body env) (TurnEndH h₀ L I oI s₁ (Inv (i + 1)) Q) E' s₂) E' { s₁ with heap := h, toks := tk }) ∧
      (∀ m led h tk (E' : Value → Shared → Prop), N ≤ tk → Inv vs.length m led h → Fr h₀ L h m → News h₀ L h led → wpAny (model prog w) A (execs orelse env) Q E' { s₁ with heap := h, toks := tk })
theorem forH {target iter : PySem.Expr} {body orelse : List Stmt} {pos : Pos} {L : Addr} {h₀ : Heap} {m₀ : Str → Option Value} {Q : Flow → Shared → Prop} {E : Value → Shared → Prop} (hh : A.handled = none) (_F : Fr h₀ L s.heap m₀)
    (h : wpAny (model prog w) A (eval iter env) (ForSrcH prog w A env target body orelse L h₀ Q) E s)
    (hs : ∀ x, foldedSetIterable iter env x = pure x) :
    wpAny (model prog w) A (exec (.For target iter body orelse pos) env) Q E s := by
  refine wpAny_For (wpAny_mono h (fun xv s₁ h₁ => ?_) fun _ _ e => e) hs
  obtain ⟨ax, vs, m, led, N, Inv, rfl, hN, F, Nw, h0, hst, hl, turn, done⟩ := h₁
  refine wpAny_pyIter_list (hl _ _ _ _ h0 F Nw) ?_
  refine forLoopH (vs := vs) (led := led) (N := N) Inv hh hN hst hl (F.push _) (News.push F Nw _) (fun q hq => ?_) ⟨rfl, rfl⟩ (hst _ _ _ _ _ h0 fun b o e _ => Heap.get?_push_of_some _ e) (fun i v m led h tk oI E' => turn _ i v m led h tk oI E') done
  exact Nat.ne_of_lt (Heap.lt_size (Nw q hq).1)

def StepEnd (h₀ : Heap) (L e it : Addr) (oe oi : Obj) (s : Shared) (J : (Str → Option Value) → Prop) (Q : Flow → Shared → Prop) (f : Flow) (s₂ : Shared) : Prop := match f with
  | .ret v => Q (.ret v) s₂
  | .next => ∃ h' tk m₂, s₂ = { s with heap := h', toks := tk } ∧ Fr h₀ L h' m₂ ∧ News h₀ L h' [(e, oe), (it, oi)] ∧ J m₂
  | _ => False
/-- a for over enumerate of a list that leaves by a return -/
theorem forEnumG {xi xv : Str} {pi pv pt : Pos} {x1} {body orelse : List Stmt} {e it l L : Addr} {items : Array Value} {h₀ : Heap} {m : Str → Option Value} {R : Result → Shared → Prop}
    (J : Nat → (Str → Option Value) → Prop) (hh : A.handled = none) (hxi : env.kindOf xi = some .local) (hxv : env.kindOf xv = some .local)
    (hp : (env.scope.kind == .class || (env.scope.kind == .module && env.locals != env.globals)) = false) (hL : env.locals = L)
    (hl : h₀.IsList l items) (F : Fr h₀ L s.heap m) (he : IsEnum s.heap e it 0 .none) (hit : s.heap.IsListIter it l 0) (he0 : h₀.get? e = none) (hi0 : h₀.get? it = none) (hei : e ≠ it) (heL : e ≠ L) (hiL : it ≠ L) (h0 : J 0 m)
    (step : ∀ i v tk m₁ h tk' oe oi (E' : Value → Shared → Prop), items[i]? = some v → J i m₁ → Fr h₀ L h (fun y => if y = xv then some v else if y = xi then some (.int i tk) else m₁ y) → News h₀ L h [(e, oe), (it, oi)] →
      wpAny (model prog w) A (execs body env) (StepEnd h₀ L e it oe oi s (J (i + 1)) fun f s' => R (.ok f) s') E' { s with heap := h, toks := tk' })
    (hend : ∀ m', J items.size m' → False) :
    codeAny (model prog w) A (.forLoop (.Tuple [.Name xi pi, .Name xv pv] x1 pt) (.ref e) body orelse env) R s := by
  subst hL
  refine codeAny_forLoop_any
    (fun k s' => ∃ h' tk m' i old, s' = { s with heap := h', toks := tk } ∧ IsEnum h' e it ((i : Nat) : Int) old ∧ h'.IsListIter it l i ∧ Fr h₀ env.locals h' m' ∧ J i m' ∧ i ≤ items.size ∧ k = items.size + 1 - i) ?_ (items.size + 1)
    ⟨s.heap, s.toks, m, 0, .none, rfl, he, hit, F, h0, Nat.zero_le _, rfl⟩
  rintro k s' ⟨H, tk, m', i, old, rfl, he', hit', F', hJ, hi, rfl⟩
  have hl' : H.IsList l items := hl.at fun o q => F'.keep _ _ q
  obtain ⟨ol, hol, _⟩ := id hl
  have hle : l ≠ e := by rintro rfl; rw [he0] at hol; cases hol
  have hli : l ≠ it := by rintro rfl; rw [hi0] at hol; cases hol
  cases hv : items[i]? with
  | none =>
    have hsz : i = items.size := Nat.le_antisymm hi (by simpa using hv)
    exact absurd (hsz ▸ hJ) fun x => hend _ x
  | some v =>
    have hlt : i < items.size := (Array.getElem?_eq_some_iff.mp hv).1
    have heH : e < H.objs.size := Heap.lt_size he'
    have hLH : env.locals < H.objs.size := F'.ns.lt
    obtain ⟨oi, hoi, _⟩ := id hit'
    have hiH : it < H.objs.size := Heap.lt_size hoi
    refine wpAny_pyNext_enum_item he' hit' hl' hv hei fun h₁ heo hit₁ ht₁ hz₁ hk₁ => ?_
    refine wpAny_letOwnedTupleGo_enum heo fun h₂ he₂ hs₂ => ?_
    replace hs₂ : Heap.SameBut e h₁ h₂ := hs₂
    have ht₂ : h₂.IsTuple H.objs.size #[.int i tk, v] := ⟨_, (hs₂.2 _ (Nat.ne_of_gt heH)).trans ht₁, rfl, _, rfl⟩
    have hz₂ : h₂.objs.size = H.objs.size + 1 := hs₂.1.trans hz₁
    refine wpAny_assign_Tuple hh ht₂ rfl rfl fun h₃ hx₃ => ?_
    replace hx₃ : Heap.ExtBut h₂.objs.size h₂ h₃ := hx₃
    have old₃ : ∀ b o, b < H.objs.size → h₂.get? b = some o → h₃.get? b = some o := fun b o hb x => hx₃ b o (by rw [hz₂]; exact Nat.ne_of_lt (Nat.lt_succ_of_lt hb)) x
    have up₃ : ∀ b o, b ≠ e → b ≠ it → H.get? b = some o → h₃.get? b = some o := fun b o hbe hbi x => old₃ b o (Heap.lt_size x) (hs₂.extBut b o hbe (hk₁ b o hbe hbi x))
    have hn₃ : h₃.Ns env.locals m' := F'.ns.at fun o x => up₃ _ o (Ne.symm heL) (Ne.symm hiL) x
    have k₃ : ∀ b o, h₀.get? b = some o → h₃.get? b = some o := fun b o x => up₃ b o (by rintro rfl; rw [he0] at x; cases x) (by rintro rfl; rw [hi0] at x; cases x) (F'.keep b o x)
    have F₃ : Fr h₀ env.locals h₃ m' := ⟨hn₃, k₃, F'.above⟩
    obtain ⟨oi₁, hoi₁, hci₁⟩ := id hit₁
    have N₃ : ∀ oe, h₂.get? e = some oe → News h₀ env.locals h₃ [(e, oe), (it, oi₁)] := by
      intro oe hoe q hq
      rcases List.mem_cons.mp hq with rfl | hq
      · exact ⟨old₃ _ _ heH hoe, heL, he0⟩
      · rw [List.mem_singleton.mp hq]
        exact ⟨old₃ _ _ hiH (hs₂.extBut _ _ (Ne.symm hei) hoi₁), hiL, hi0⟩
    show wpAny _ A (do holding [v] (assign (.Name xi pi) env (.int i tk)); do holding [] (assign (.Name xv pv) env v); pure ()) _ _ _
    refine wpAny_bind (wpAny_holding (wpAny_assign_Name (wpAny_storeName_local hxi F₃.ns (fun h₄ hn₄ hs₄ => ?_) hp)))
    replace hs₄ : Heap.SameBut env.locals h₃ h₄ := hs₄
    have F₄ := F₃.set hn₄ hs₄
    have N₄ := (N₃ _ he₂).set hs₄
    refine wpAny_bind (wpAny_holding (wpAny_assign_Name (wpAny_storeName_local hxv F₄.ns (fun h₅ hn₅ hs₅ => wpAny_pure ?_) hp)))
    replace hs₅ : Heap.SameBut env.locals h₄ h₅ := hs₅
    have F₅ := F₄.set hn₅ hs₅
    have N₅ := N₄.set hs₅
    refine wpAny_mono (step i v tk m' _ _ _ _ _ hv hJ F₅ N₅) (fun f s₃ h₆ => ?_) fun _ _ x => x
    cases f with
    | ret v => exact h₆
    | brk => exact h₆.elim
    | cont => exact h₆.elim
    | next =>
      obtain ⟨h', tk₆, m₂, rfl, F₆, N₆, hJ₆⟩ := h₆
      refine ⟨items.size + 1 - (i + 1), by omega, h', tk₆, m₂, i + 1, v, rfl, ?_, ?_, F₆, hJ₆, hlt, rfl⟩
      · have : ((i + 1 : Nat) : Int) = (i : Int) + 1 := by push_cast; rfl
        rw [this]; exact (N₆ _ (List.Mem.head _)).1
      · exact ⟨_, (N₆ _ (List.Mem.tail _ (List.Mem.head _))).1, hci₁⟩
def ForSrcE (prog : Program) (w : World) (A : Around) (env : Env) (xi xv : Str) (body : List Stmt) (L : Addr) (h₀ : Heap) (Q : Flow → Shared → Prop) (x : Value) (s₁ : Shared) : Prop :=
  ∃ (e it l : Addr) (items : Array Value) (m : Str → Option Value) (J : Nat → (Str → Option Value) → Prop), x = .ref e ∧ e ≠ it ∧ e ≠ L ∧ it ≠ L ∧ h₀.get? e = none ∧ h₀.get? it = none ∧ IsEnum s₁.heap e it 0 .none ∧ s₁.heap.IsListIter it l 0 ∧ h₀.IsList l items ∧ Fr h₀ L s₁.heap m ∧ J 0 m ∧
    (∀ i v tk m₁ h tk' oe oi (E' : Value → Shared → Prop), items[i]? = some v → J i m₁ → Fr h₀ L h (fun y => if y = xv then some v else if y = xi then some (.int i tk) else m₁ y) → News h₀ L h [(e, oe), (it, oi)] →
      wpAny (model prog w) A (execs body env) (StepEnd h₀ L e it oe oi s₁ (J (i + 1)) Q) E' { s₁ with heap := h, toks := tk' }) ∧
    (∀ m', J items.size m' → False)
theorem forE {xi xv : Str} {pi pv pt : Pos} {x1} {iter : PySem.Expr} {body orelse : List Stmt} {pos : Pos} {L : Addr} {h₀ : Heap} {m₀ : Str → Option Value} {Q : Flow → Shared → Prop} {E : Value → Shared → Prop} (hh : A.handled = none) (_F : Fr h₀ L s.heap m₀)
    (hxi : env.kindOf xi = some .local) (hxv : env.kindOf xv = some .local)
    (hp : (env.scope.kind == .class || (env.scope.kind == .module && env.locals != env.globals)) = false) (hL : env.locals = L)
    (h : wpAny (model prog w) A (eval iter env) (ForSrcE prog w A env xi xv body L h₀ Q) E s)
    (hs : ∀ x, foldedSetIterable iter env x = pure x) :
    wpAny (model prog w) A (exec (.For (.Tuple [.Name xi pi, .Name xv pv] x1 pt) iter body orelse pos) env) Q E s := by
  refine wpAny_For (wpAny_mono h (fun x s₁ h₁ => ?_) fun _ _ e => e) hs
  obtain ⟨e, it, l, items, m, J, rfl, hei, heL, hiL, he0, hi0, he, hit, hl, F, h0, step, hend⟩ := h₁
  refine wpAny_pyIter_enum he (forEnumG J hh hxi hxv hp hL hl F he hit he0 hi0 hei heL hiL h0 (fun i v tk m₁ h tk' oe oi E' a b c d => wpAny_mono (step i v tk m₁ h tk' oe oi E' a b c d) (fun f s₂ q => ?_) fun _ _ e => e) hend)
  cases f <;> exact q
end
end

section
theorem resetLoopR : True := by w_top off; trivial
section
variable {prog : Program} {w : World} {A : Around} {s : Shared} {env : Env}
abbrev rangeIt (x left : Int) : Obj := { cls := .type "range_iterator", dict := none, data := .fields #[rawInt x, rawInt left, rawInt 1], slots := #[] }
/-- a for over range(n) whose invariant sees the heap -/
theorem forLoopR {x : Str} {px : Pos} {body orelse : List Stmt} {I L : Addr} {h₀ : Heap} {n : Nat} {R : Result → Shared → Prop} {m : Str → Option Value} {led : List (Addr × Obj)} {N : Nat}
    (Inv : InvH) (hh : A.handled = none) (hN : N ≤ s.toks)
    (hst : ∀ i m led h h', Inv i m led h → (∀ b o, h.get? b = some o → o.cls ≠ .type "range_iterator" → h'.get? b = some o) → Inv i m led h')
    (F : Fr h₀ L s.heap m) (Nw : News h₀ L s.heap ((I, rangeIt 0 n) :: led)) (hoff : ∀ q ∈ led, q.1 ≠ I) (h0 : Inv 0 m led s.heap)
    (turn : ∀ i m led h t tk oI (E' : Value → Shared → Prop), N ≤ tk → i < n → Inv i m led h → Fr h₀ L h m → News h₀ L h ((I, oI) :: led) → (∀ q ∈ led, q.1 ≠ I) → oI.cls = .type "range_iterator" →
      wpAny (model prog w) A (assign (.Name x px) env (.int (i : Int) t)) (fun _ s₂ => wpAny (model prog w) A (execs body env) (TurnEndH h₀ L I oI s (Inv (i + 1)) (fun f s' => R (.ok f) s')) E' s₂) E' { s with heap := h, toks := tk })
    (done : ∀ m led h tk (E' : Value → Shared → Prop), N ≤ tk → Inv n m led h → Fr h₀ L h m → News h₀ L h led → wpAny (model prog w) A (execs orelse env) (fun f s' => R (.ok f) s') E' { s with heap := h, toks := tk }) :
    codeAny (model prog w) A (.forLoop (.Name x px) (.ref I) body orelse env) R s := by
  refine codeAny_forLoop_any
    (fun k s' => ∃ h' tk m' led' i, s' = { s with heap := h', toks := tk } ∧ N ≤ tk ∧ i ≤ n ∧ k = n + 1 - i ∧ Fr h₀ L h' m' ∧ News h₀ L h' ((I, rangeIt (i : Int) ((n : Int) - i)) :: led') ∧ (∀ q ∈ led', q.1 ≠ I) ∧ Inv i m' led' h') ?_ (n + 1)
    ⟨s.heap, s.toks, m, led, 0, rfl, hN, Nat.zero_le _, rfl, F, by simpa using Nw, hoff, h0⟩
  rintro k s' ⟨H, tk, m', led', i, rfl, hNk, hi, rfl, F1, N1, hoff1, hInv⟩
  have nI := N1 _ (List.Mem.head _)
  have nI1 : IsRangeIter H I (i : Int) ((n : Int) - i) 1 := nI.1
  have nI2 : I ≠ L := nI.2.1
  have nI3 : h₀.get? I = none := nI.2.2
  have N1' : News h₀ L H led' := fun q hq => N1 q (List.Mem.tail _ hq)
  have kst : ∀ h₁, (∀ b o, b ≠ I → H.get? b = some o → h₁.get? b = some o) → Inv i m' led' h₁ := fun h₁ k => hst _ _ _ _ _ hInv fun b o e hc => k b o (fun q => hc (by
    have q' : b = I := q
    rw [q'] at e
    have e2 : H.get? I = some o := e
    rw [show H.get? I = _ from nI1] at e2
    cases e2
    rfl)) e
  by_cases hlt : i < n
  · refine wpAny_pyNext_range_item nI1 (by omega) fun h₁ hit₁ hs₁ => ?_
    have F2 : Fr h₀ L h₁ m' := F1.change hs₁ nI2 nI3
    have hz : IsRangeIter h₁ I ((i + 1 : Nat) : Int) ((n : Int) - (i + 1 : Nat)) 1 := by
      have e1 : ((i + 1 : Nat) : Int) = (i : Int) + 1 := by push_cast; rfl
      have e2 : (n : Int) - (i + 1 : Nat) = (n : Int) - i - 1 := by omega
      rw [e2, e1]; exact hit₁
    have N2 : News h₀ L h₁ ((I, rangeIt ((i + 1 : Nat) : Int) ((n : Int) - (i + 1 : Nat))) :: led') := News.setAt (own := []) N1 (fun _ h => nomatch h) hoff1 hs₁ hz
    have hInv1 : Inv i m' led' h₁ := kst h₁ fun b o hb e => hs₁.extBut b o hb e
    refine wpAny_pure (M := model prog w) (A := A) (a := ()) ?_
    have hN1 : N ≤ tk + 1 := by omega
    refine wpAny_with_toks (n := N) hN1 (wpAny_mono (turn i m' led' h₁ tk (tk + 1) _ _ hN1 hlt hInv1 F2 N2 hoff1 rfl) (fun _ s₂ h₂ hn₂ => wpAny_with_toks (n := N) hn₂ (wpAny_mono h₂ (fun f s₃ h₃ hn₃ => ?_) fun _ _ e => e)) fun _ _ e => e)
    have fin : (∃ h' tk m' led'', s₃ = { s with heap := h', toks := tk } ∧ Fr h₀ L h' m' ∧ News h₀ L h' ((I, rangeIt ((i + 1 : Nat) : Int) ((n : Int) - (i + 1 : Nat))) :: led'') ∧ (∀ q ∈ led'', q.1 ≠ I) ∧ Inv (i + 1) m' led'' h') →
        ∃ k', k' < n + 1 - i ∧ ∃ h' tk m' led' i', s₃ = { s with heap := h', toks := tk } ∧ N ≤ tk ∧ i' ≤ n ∧ k' = n + 1 - i' ∧ Fr h₀ L h' m' ∧ News h₀ L h' ((I, rangeIt (i' : Int) ((n : Int) - i')) :: led') ∧ (∀ q ∈ led', q.1 ≠ I) ∧ Inv i' m' led' h' := by
      rintro ⟨h', tk', m₂, led₂, e, F', N', ho', hv'⟩
      subst e
      exact ⟨n + 1 - (i + 1), by omega, h', tk', m₂, led₂, i + 1, rfl, hn₃, hlt, rfl, F', N', ho', hv'⟩
    cases f with
    | ret v => exact h₃
    | brk => exact h₃
    | next => exact fin h₃
    | cont => exact fin h₃
  · have hin : i = n := by omega
    refine wpAny_pyNext_range_end hh nI1 (by omega) fun h₁ hk₁ => ?_
    have hk₁' : ∀ b o, b ≠ I → H.get? b = some o → h₁.get? b = some o := fun b o hb e => hk₁ b o hb e
    have F2 : Fr h₀ L h₁ m' := ⟨F1.ns.at' fun o e => hk₁' _ o (Ne.symm nI2) e, fun b o e => hk₁' b o (fun q => by rw [q, nI3] at e; cases e) (F1.keep b o e), F1.above⟩
    refine done m' led' h₁ tk _ hNk (hin ▸ kst h₁ hk₁') F2 (fun q hq => ?_)
    have hN := N1' q hq
    exact ⟨hk₁' _ _ (hoff1 q hq) hN.1, hN.2⟩
def ForSrcR (prog : Program) (w : World) (A : Around) (env : Env) (x : Str) (px : Pos) (body orelse : List Stmt) (L : Addr) (h₀ : Heap) (Q : Flow → Shared → Prop) (n : Nat) (s₁ : Shared) : Prop :=
  ∃ m led, ∃ N : Nat, ∃ Inv : InvH, N ≤ s₁.toks ∧ Fr h₀ L s₁.heap m ∧ News h₀ L s₁.heap led ∧ Inv 0 m led s₁.heap ∧
      (∀ i m led h h', Inv i m led h → (∀ b o, h.get? b = some o → o.cls ≠ .type "range_iterator" → h'.get? b = some o) → Inv i m led h') ∧
      (∀ I i m led h t tk oI (E' : Value → Shared → Prop), N ≤ tk → i < n → Inv i m led h → Fr h₀ L h m → News h₀ L h ((I, oI) :: led) → (∀ q ∈ led, q.1 ≠ I) → oI.cls = .type "range_iterator" →
        wpAny (model prog w) A (assign (.Name x px) env (.int (i : Int) t)) (fun _ s₂ => wpAny (model prog w) A (execs body env) (TurnEndH h₀ L I oI s₁ (Inv (i + 1)) Q) E' s₂) E' { s₁ with heap := h, toks := tk }) ∧
      (∀ m led h tk (E' : Value → Shared → Prop), N ≤ tk → Inv n m led h → Fr h₀ L h m → News h₀ L h led → wpAny (model prog w) A (execs orelse env) Q E' { s₁ with heap := h, toks := tk })
def ForSrcRV (prog : Program) (w : World) (A : Around) (env : Env) (x : Str) (px : Pos) (body orelse : List Stmt) (L : Addr) (h₀ : Heap) (Q : Flow → Shared → Prop) (xv : Value) (s₁ : Shared) : Prop :=
  ∃ r t u v, xv = .ref r ∧ IsRange s₁.heap r 0 3 1 t u v ∧ ForSrcR prog w A env x px body orelse L h₀ Q 3 s₁
theorem forR3 {x : Str} {px : Pos} {iter : PySem.Expr} {body orelse : List Stmt} {pos : Pos} {L : Addr} {h₀ : Heap} {m₀ : Str → Option Value} {Q : Flow → Shared → Prop} {E : Value → Shared → Prop} (hh : A.handled = none) (_F : Fr h₀ L s.heap m₀)
    (h : wpAny (model prog w) A (eval iter env) (ForSrcRV prog w A env x px body orelse L h₀ Q) E s)
    (hs : ∀ x, foldedSetIterable iter env x = pure x) :
    wpAny (model prog w) A (exec (.For (.Name x px) iter body orelse pos) env) Q E s := by
  refine wpAny_For (wpAny_mono h (fun xv s₁ h₁ => ?_) fun _ _ e => e) hs
  obtain ⟨r, t, u, v, rfl, hr, m, led, N, Inv, hN, F, Nw, h0, hst, turn, done⟩ := h₁
  refine wpAny_pyIter_range hr (by decide) ?_
  have hp : ∀ b o, s₁.heap.get? b = some o → (s₁.heap.push (rangeIt 0 3)).get? b = some o := fun b o e => Heap.get?_push_of_some _ e
  exact forLoopR (n := 3) (led := led) (N := N) Inv hh hN hst (F.push _) (News.push F Nw _) (fun q hq => Nat.ne_of_lt (Heap.lt_size (Nw q hq).1)) (hst _ _ _ _ _ h0 fun b o e _ => hp b o e) (fun i m led h t tk oI E' => turn _ i m led h t tk oI E') done
end
end

section
theorem resetCompT : True := by w_top off; trivial
section
variable {prog : Program} {w : World} {A : Around} {E : Value → Shared → Prop} {s : Shared} {env : Env}
theorem compLoopT {α : Type} {elt iter : Expr} {x : Str} {px : Pos} {ifs : List Expr} {scope : Scope} {pos : Pos} {I ax D C : Addr} {cenv : Env} {h₀ : Heap} {vs : List Value} {its : List α} {R : Result → Shared → Prop} {m : Str → Option Value} {oI : Obj} {N : Nat} (hNs : N ≤ s.toks)
    (P : Value → α → Prop) (p : α → Bool) (G : List (Addr × Obj) → Value → α → Prop) (hG : ∀ l l' y a, (∀ q ∈ l, q ∈ l') → G l y a → G l' y a)
    (hh : A.handled = none) (hC : cenv.locals = C) (hx : cenv.kindOf x = some .local) (hp : (cenv.scope.kind == .class || (cenv.scope.kind == .module && cenv.locals != cenv.globals)) = false)
    (hl : h₀.IsList ax vs.toArray) (hP : PySem.Paired P vs its) (hsz : vs.length ≤ sizeLine) (hIC : I ≠ C) (hDC : D ≠ C) (hID : I ≠ D)
    (F : Fr h₀ C s.heap m) (Nw : News h₀ C s.heap [(I, oI), (D, plainL [] 0)]) (hI : iterOf ax 0 oI)
    (test : ∀ v a h tk m' oI oD tl (E' : Value → Shared → Prop), N ≤ tk → P v a → Fr h₀ C h m' → m' x = some v → News h₀ C h ((I, oI) :: (D, oD) :: tl) →
      wpAny (model prog w) A (forIn ifs true fun c r => if r = true then do let ok ← isTrue c cenv (eval c cenv); pure (ForInStep.yield ok) else pure (ForInStep.yield r))
        (Hand h₀ C m' ((I, oI) :: (D, oD) :: tl) { s with heap := h, toks := tk } (fun ok _ => ok = p a)) E' { s with heap := h, toks := tk })
    (elt_ : ∀ v a h tk m' oI oD tl (E' : Value → Shared → Prop), N ≤ tk → P v a → p a = true → Fr h₀ C h m' → m' x = some v → News h₀ C h ((I, oI) :: (D, oD) :: tl) →
      wpAny (model prog w) A (eval elt cenv) (Hand h₀ C m' ((I, oI) :: (D, oD) :: tl) { s with heap := h, toks := tk } (fun y new => G new y a)) E' { s with heap := h, toks := tk })
    (hR : ∀ h' tk m' ys n tl, Fr h₀ C h' m' → News h₀ C h' ((D, plainL ys n) :: tl) → (∀ q ∈ tl, q.1 ≠ D) → PySem.Paired (G tl) ys (its.filter p) → R (.ok .next) { s with heap := h', toks := tk }) :
    codeAny (model prog w) A (.compLoop (.ListComp elt [⟨.Name x px, iter, ifs, 0⟩] scope pos) 0 (.ref I) (.ref D) cenv) R s := by
  have hlen := hP.length
  refine codeAny_compLoop_tests
    (fun k s' => ∃ h' tk m' ys n i oI tl, s' = { s with heap := h', toks := tk } ∧ N ≤ tk ∧ i ≤ vs.length ∧ k = vs.length + 1 - i ∧ Fr h₀ C h' m' ∧ News h₀ C h' ((I, oI) :: (D, plainL ys n) :: tl) ∧ iterOf ax i oI ∧ (∀ q ∈ tl, q.1 ≠ I ∧ q.1 ≠ D) ∧
      PySem.Paired (G tl) ys ((its.take i).filter p)) ?_ (vs.length + 1)
    ⟨s.heap, s.toks, m, [], 0, 0, oI, [], rfl, hNs, Nat.zero_le _, rfl, F, Nw, hI, fun _ hq => (nomatch hq), .nil⟩
  rintro k s' ⟨H, tk, m', ys, n, i, oI', tl, rfl, hNk, hi, rfl, F1, N1, hI1, hoff, hys⟩
  have nI := N1 _ (List.Mem.head _)
  have nD := N1 _ (List.Mem.tail _ (List.Mem.head _))
  have iI : H.IsListIter I ax i := ⟨oI', nI.1, hI1.1, hI1.2⟩
  have iL : H.IsList ax vs.toArray := hl.at fun o e => F1.keep _ _ e
  by_cases hlt : i < vs.length
  · have hv : vs[i]? = some vs[i] := List.getElem?_eq_getElem hlt
    obtain ⟨a, ha, hPa⟩ := Paired.at hP hv
    refine wpAny_pyNext_list_item iI iL (x := vs[i]) (by simpa using hv) fun h₁ hit₁ hs₁ => ?_
    obtain ⟨oI₁, ho₁, hc₁, hd₁⟩ := hit₁
    have F2 : Fr h₀ C h₁ m' := F1.change hs₁ hIC nI.2.2
    have N2 : News h₀ C h₁ ((I, oI₁) :: (D, plainL ys n) :: tl) := by
      refine News.setAt (own := []) N1 (fun _ h => nomatch h) (fun q hq => ?_) hs₁ ho₁
      rcases List.mem_cons.mp hq with rfl | hq
      · exact Ne.symm hID
      · exact (hoff q hq).1
    refine wpAny_assign_Name (wpAny_storeName_local hx (hC ▸ F2.ns) (fun h₂ hn₂ hs₂ => ?_) hp)
    rw [hC] at hn₂ hs₂
    have F3 : Fr h₀ C h₂ (fun y => if y = x then some vs[i] else m' y) := F2.set hn₂ hs₂
    have N3 := N2.set hs₂
    refine wpAny_with_toks (n := N) (by (try dsimp only); omega) (wpAny_mono (test _ a _ _ _ _ _ _ _ (by (try dsimp only); omega) hPa F3 (by simp) N3) (fun ok s₃ h₃ hn₃ => ?_) fun _ _ e _ => e)
    obtain ⟨h₃, tk₃, new₃, rfl, F4, N4, hoff4, rfl⟩ := h₃
    have hn₃' : N ≤ tk₃ := hn₃
    have N4' : News h₀ C h₃ ((I, oI₁) :: (D, plainL ys n) :: tl) := fun q hq => N4 q (List.mem_append_right _ hq)
    have htake := take_succ_filter p its i a ha
    cases hpa : p a with
    | false =>
      simp only [Bool.false_eq_true, if_false]
      refine ⟨vs.length + 1 - (i + 1), by omega, h₃, tk₃, _, ys, n, i + 1, oI₁, tl, rfl, hn₃', hlt, rfl, F4, N4', ⟨hc₁, hd₁⟩, hoff, ?_⟩
      rw [htake, hpa]
      simpa using hys
    | true =>
      simp only [if_true]
      refine wpAny_with_toks (n := N) hn₃' (wpAny_mono (elt_ _ a h₃ tk₃ _ _ _ _ _ hn₃' hPa hpa F4 (by simp) N4') (fun y s₄ h₄ hn₄ => ?_) fun _ _ e _ => e)
      obtain ⟨h₄, tk₄, new₄, rfl, F5, N5, hoff5, hG5⟩ := h₄
      have hn₄' : N ≤ tk₄ := hn₄
      have nD5 := N5 (D, plainL ys n) (List.mem_append_right _ (List.Mem.tail _ (List.Mem.head _)))
      have hyl : ys.length ≤ sizeLine := by
        have e1 := hys.length
        have e2 : ((its.take i).filter p).length ≤ (its.take i).length := List.length_filter_le _ _
        have e3 : (its.take i).length ≤ i := by rw [List.length_take]; exact Nat.min_le_left _ _
        omega
      refine wpAny_list_append_plain (hsz := by simpa using hyl) (items := ys.toArray) ⟨n, nD5.1⟩ fun h₅ hl₅ hs₅ => ?_
      obtain ⟨n₅, hn₅⟩ := hl₅
      have N6 : News h₀ C h₅ ((new₄ ++ [(I, oI₁)]) ++ (D, plainL (ys ++ [y]) n₅) :: tl) := by
        refine News.setAt (o := plainL ys n) ?_ (fun q hq => ?_) (fun q hq => (hoff q hq).2) hs₅ (by rw [hn₅]; simp [plainL])
        · intro q hq
          exact N5 q (by simpa [List.append_assoc] using hq)
        · rcases List.mem_append.mp hq with hq | hq
          · exact hoff5 q hq (D, plainL ys n) (List.Mem.tail _ (List.Mem.head _))
          · rw [List.mem_singleton.mp hq]; exact hID
      refine ⟨vs.length + 1 - (i + 1), by omega, h₅, tk₄, _, ys ++ [y], n₅, i + 1, oI₁, new₄ ++ tl, rfl, hn₄', hlt, rfl, F5.change hs₅ hDC nD5.2.2, ?_, ⟨hc₁, hd₁⟩, ?_, ?_⟩
      · intro q hq
        refine N6 q ?_
        simp only [List.mem_cons, List.mem_append, List.append_assoc, List.singleton_append] at hq ⊢
        rcases hq with h | h | h | h
        · exact .inr (.inl h)
        · exact .inr (.inr (.inl h))
        · exact .inl h
        · exact .inr (.inr (.inr h))
      · intro q hq
        rcases List.mem_append.mp hq with hq | hq
        · exact ⟨hoff5 q hq (I, oI₁) (List.Mem.head _), hoff5 q hq (D, plainL ys n) (List.Mem.tail _ (List.Mem.head _))⟩
        · exact hoff q hq
      · rw [htake, hpa]
        exact Paired.snoc (PySem.Paired.mono (fun y a g => hG _ _ y a (fun q hq => List.mem_append_right _ hq) g) hys) (hG _ _ _ _ (fun q hq => List.mem_append_left _ hq) hG5)
  · have hin : i = vs.length := by omega
    refine wpAny_pyNext_list_end hh iI iL (by simp [hin]) fun h₁ hk₁ => ?_
    have F2 : Fr h₀ C h₁ m' := ⟨F1.ns.at' fun o e => hk₁ _ o (Ne.symm hIC) e, fun b o e => hk₁ b o (fun q => by rw [q, nI.2.2] at e; cases e) (F1.keep b o e), F1.above⟩
    refine hR h₁ tk m' ys n tl F2 (fun q hq => ?_) (fun q hq => (hoff q hq).2) ?_
    · have hqI : q.1 ≠ I := by
        rcases List.mem_cons.mp hq with rfl | hq
        · exact Ne.symm hID
        · exact (hoff q hq).1
      have hN := N1 q (List.Mem.tail _ hq)
      exact ⟨hk₁ _ _ hqI hN.1, hN.2⟩
    · rw [hin, hlen, List.take_length] at hys
      exact hys

/-- the block of a comprehension over a list, from the list's evaluation on -/
theorem compBlockT {α : Type} {elt iter : Expr} {x : Str} {px : Pos} {ifs : List Expr} {scope : Scope} {cl : List (Str × Addr)} {pos : Pos} {s₁ : Shared} {ax : Addr} {vs : List Value} {its : List α} {RR : Value → Addr → Result → Shared → Prop} {N : Nat} (hNs : N ≤ s₁.toks)
    (P : Value → α → Prop) (p : α → Bool) (G : List (Addr × Obj) → Value → α → Prop) (hG : ∀ l l' y a, (∀ q ∈ l, q ∈ l') → G l y a → G l' y a)
    (hh : A.handled = none) (hcell : ∀ y ∈ scope.names, y.2 ≠ .cell) (hkind : scope.kind = .function) (hx : scope.names.lookup x = some .local)
    (hl : s₁.heap.IsList ax vs.toArray) (hP : PySem.Paired P vs its) (hsz : vs.length ≤ sizeLine)
    (test : ∀ C v a h tk m' l0 (E' : Value → Shared → Prop), N ≤ tk → s₁.heap.objs.size ≤ C → P v a → Fr s₁.heap C h m' → m' x = some v → News s₁.heap C h l0 →
      wpAny (model prog w) A (forIn ifs true fun c r => if r = true then do let ok ← isTrue c (compEnvC scope cl C env) (eval c (compEnvC scope cl C env)); pure (ForInStep.yield ok) else pure (ForInStep.yield r))
        (Hand s₁.heap C m' l0 { s₁ with heap := h, toks := tk } (fun ok _ => ok = p a)) E' { s₁ with heap := h, toks := tk })
    (elt_ : ∀ C v a h tk m' l0 (E' : Value → Shared → Prop), N ≤ tk → s₁.heap.objs.size ≤ C → P v a → p a = true → Fr s₁.heap C h m' → m' x = some v → News s₁.heap C h l0 →
      wpAny (model prog w) A (eval elt (compEnvC scope cl C env)) (Hand s₁.heap C m' l0 { s₁ with heap := h, toks := tk } (fun y new => G new y a)) E' { s₁ with heap := h, toks := tk })
    (hRR : ∀ D C h' tk m' ys n tl, s₁.heap.get? D = none → s₁.heap.get? C = none → D ≠ C → h'.Ns C m' → h'.get? D = some (plainL ys n) → (∀ b o, s₁.heap.get? b = some o → h'.get? b = some o) →
      (∀ q ∈ tl, h'.get? q.1 = some q.2 ∧ s₁.heap.get? q.1 = none ∧ q.1 ≠ D ∧ q.1 ≠ C) → PySem.Paired (G tl) ys (its.filter p) → RR (.ref D) C (.ok .next) { s₁ with heap := h', toks := tk }) :
    wpAny (model prog w) A (pyIter (.ref ax)) (fun it s₂ => wpAny (model prog w) A (newList []) (fun acc s₃ => wpAny (model prog w) A (newFunctionEnv scope env.globals cl [] env.qual none .none (some env)) (fun cenv s₄ =>
      codeAny (model prog w) A (.compStart (.ListComp elt [⟨.Name x px, iter, ifs, 0⟩] scope pos) 0 it acc { cenv with scope := relabel scope env }) (RR acc cenv.locals) s₄) E s₃) E s₂) E s₁ := by
  refine wpAny_pyIter_list hl ?_
  refine wpAny_newObj_type (wpAny_newFunctionEnv hcell (by intro y hy; simp at hy) (fun h₁ hns₁ hsb₁ => ?_) hkind)
  dsimp only at hns₁ hsb₁ ⊢
  have fresh : ∀ a, s₁.heap.objs.size ≤ a → s₁.heap.get? a = none := fun a ha => by
    cases e : s₁.heap.get? a with
    | none => rfl
    | some o' => exact absurd (Heap.lt_size e) (Nat.not_lt.mpr ha)
  generalize hH1 : s₁.heap.push { cls := .type "list_iterator", data := .fields #[.ref ax, .int 0 0] } = H1 at hns₁ hsb₁ ⊢
  have z1 : H1.objs.size = s₁.heap.objs.size + 1 := by rw [← hH1, Heap.size_push]
  generalize hH2 : H1.push { cls := .type "list", dict := none, data := .seq ([] : List Value).toArray } = H2 at hns₁ hsb₁ ⊢
  have z2 : H2.objs.size = s₁.heap.objs.size + 2 := by rw [← hH2, Heap.size_push, z1]
  rw [z2] at hns₁ hsb₁ ⊢
  rw [z1]
  have keep0 : ∀ b o, s₁.heap.get? b = some o → h₁.get? b = some o := fun b o e => by
    have hb := Heap.lt_size e
    exact hsb₁.extBut _ _ (lt_ne_2 hb) (Heap.get?_push_of_some _ (hH2 ▸ Heap.get?_push_of_some _ (hH1 ▸ Heap.get?_push_of_some _ e)))
  have gI : h₁.get? s₁.heap.objs.size = some { cls := .type "list_iterator", data := .fields #[.ref ax, .int 0 0] } := by
    exact hsb₁.extBut _ _ (ne_2 _) (Heap.get?_push_of_some _ (hH2 ▸ Heap.get?_push_of_some _ (hH1 ▸ Heap.get?_push_size _ rfl)))
  have gD : h₁.get? (s₁.heap.objs.size + 1) = some (plainL [] 0) := by
    refine hsb₁.extBut _ _ (ne_12 _) (Heap.get?_push_of_some _ ?_)
    rw [← hH2, ← z1]
    exact Heap.get?_push_size _ rfl
  have F1 : Fr s₁.heap (s₁.heap.objs.size + 2) h₁ _ := ⟨hns₁, keep0, by omega⟩
  have N1 : News s₁.heap (s₁.heap.objs.size + 2) h₁ [(s₁.heap.objs.size, ({ cls := .type "list_iterator", data := .fields #[.ref ax, .int 0 0] } : Obj)), (s₁.heap.objs.size + 1, plainL [] 0)] := by
    intro q hq
    rcases List.mem_cons.mp hq with rfl | hq
    · exact ⟨gI, ne_2 _, fresh _ (Nat.le_refl _)⟩
    · rw [List.mem_singleton.mp hq]
      exact ⟨gD, ne_12 _, fresh _ (Nat.le_succ _)⟩
  have loop : ∀ s₃ : Shared, s₃ = { s₁ with heap := h₁, toks := s₁.toks + ([] : List (Str × Value)).length } →
      codeAny (model prog w) A (.compLoop (.ListComp elt [⟨.Name x px, iter, ifs, 0⟩] scope pos) 0 (.ref s₁.heap.objs.size) (.ref (s₁.heap.objs.size + 1)) (compEnvC scope cl (s₁.heap.objs.size + 2) env))
        (RR (.ref (s₁.heap.objs.size + 1)) (s₁.heap.objs.size + 2)) s₃ := by
    rintro s₃ rfl
    refine compLoopT (N := N) (by (try dsimp only); omega) (cenv := compEnvC scope cl (s₁.heap.objs.size + 2) env) P p G hG hh rfl (lookup_relabel_local hx) (by simp [compEnvC, relabel, hkind]) hl hP hsz (ne_2 _) (ne_12 _) (ne_01 _)
      F1 N1 ⟨rfl, rfl⟩ (fun v a h tk m' oI oD tl E' hnt hv hF hm hN => test _ v a h tk m' _ E' hnt (Nat.le_add_right _ 2) hv hF hm hN) (fun v a h tk m' oI oD tl E' hnt hv hpa hF hm hN => elt_ _ v a h tk m' _ E' hnt (Nat.le_add_right _ 2) hv hpa hF hm hN) fun h' tk m' ys n tl F' N' off hys => ?_
    have nD := N' _ (List.Mem.head _)
    refine hRR _ _ h' tk m' ys n tl (fresh _ (Nat.le_succ _)) (fresh _ (by omega)) (ne_12 _) F'.ns nD.1 (fun b o e => F'.keep b o e) (fun q hq => ?_) hys
    have nq := N' q (List.Mem.tail _ hq)
    exact ⟨nq.1, nq.2.2, off q hq, nq.2.1⟩
  have hit : h₁.IsListIter s₁.heap.objs.size ax 0 := ⟨_, gI, rfl, rfl⟩
  exact codeAny_compStart_list (loop _ rfl) (wpAny_pyIter_listiter hit (loop _ rfl))

theorem assignCompT {α : Type} {elt iter : Expr} {x y : Str} {px py : Pos} {ifs : List Expr} {scope : Scope} {cl : List (Str × Addr)} {pos spos : Pos} {Q : Flow → Shared → Prop} {N : Nat}
    (P : Value → α → Prop) (p : α → Bool) (G : List (Addr × Obj) → Value → α → Prop) (hG : ∀ l l' y a, (∀ q ∈ l, q ∈ l') → G l y a → G l' y a)
    (hh : A.handled = none) (hsw : swapsWith (.ListComp elt [⟨.Name x px, iter, ifs, 0⟩] scope pos) (some (.Name y py)) spos.line env = pure true)
    (hclos : closureFor scope env = pure cl) (hcell : ∀ y ∈ scope.names, y.2 ≠ .cell) (hkind : scope.kind = .function)
    (hnames : ∀ y ∈ scope.names, y.2 = .local → scope.names.lookup y.1 = some .local) (hx : scope.names.lookup x = some .local)
    (hy : env.kindOf y = some .local) (hp : (env.scope.kind == .class || (env.scope.kind == .module && env.locals != env.globals)) = false)
    (h : wpAny (model prog w) A (eval iter env) (fun xv s₁ => ∃ ax vs its m, xv = .ref ax ∧ N ≤ s₁.toks ∧ s₁.heap.IsList ax vs.toArray ∧ PySem.Paired P vs its ∧ vs.length ≤ sizeLine ∧ s₁.heap.Ns env.locals m ∧
      (∀ C v a h tk m' l0 (E' : Value → Shared → Prop), N ≤ tk → s₁.heap.objs.size ≤ C → P v a → Fr s₁.heap C h m' → m' x = some v → News s₁.heap C h l0 →
        wpAny (model prog w) A (forIn ifs true fun c r => if r = true then do let ok ← isTrue c (compEnvC scope cl C env) (eval c (compEnvC scope cl C env)); pure (ForInStep.yield ok) else pure (ForInStep.yield r))
          (Hand s₁.heap C m' l0 { s₁ with heap := h, toks := tk } (fun ok _ => ok = p a)) E' { s₁ with heap := h, toks := tk }) ∧
      (∀ C v a h tk m' l0 (E' : Value → Shared → Prop), N ≤ tk → s₁.heap.objs.size ≤ C → P v a → p a = true → Fr s₁.heap C h m' → m' x = some v → News s₁.heap C h l0 →
        wpAny (model prog w) A (eval elt (compEnvC scope cl C env)) (Hand s₁.heap C m' l0 { s₁ with heap := h, toks := tk } (fun y new => G new y a)) E' { s₁ with heap := h, toks := tk }) ∧
      (∀ D h' tk ys n tl, s₁.heap.get? D = none → h'.get? D = some (plainL ys n) → h'.Ns env.locals (fun z => if z = y then some (.ref D) else m z) → (∀ b o, b ≠ env.locals → s₁.heap.get? b = some o → h'.get? b = some o) →
        (∀ q ∈ tl, h'.get? q.1 = some q.2 ∧ s₁.heap.get? q.1 = none ∧ q.1 ≠ D) → PySem.Paired (G tl) ys (its.filter p) → Q .next { s₁ with heap := h', toks := tk })) E s)
    (hs : ∀ x, foldedSetIterable iter env x = pure x := by intro _; rfl) :
    wpAny (model prog w) A (exec (.Assign [.Name y py] (.ListComp elt [⟨.Name x px, iter, ifs, 0⟩] scope pos) spos) env) Q E s := by
  rw [exec_Assign_Name_used _ _ _ _ hsw]
  refine wpAny_bind (wpAny_standAt (wpAny_bind ?_))
  show wpAny _ A (do let _ ← comprehension (.ListComp elt [⟨.Name x px, iter, ifs, 0⟩] scope pos) scope env _ (newList []) false (eval iter env) (some (assign (.Name y py) env))) _ _ s
  refine wpAny_bind (wpAny_mono (wpAny_comprehension_free (use := some (assign (.Name y py) env)) (Q := fun _ s' => Q .next s') rfl hs hclos hkind hnames
    (wpAny_mono h (fun xv s₁ h₁ => ?_) fun _ _ e => e)) (fun _ s' hq => wpAny_pure (wpAny_pure hq)) fun _ _ e => e)
  obtain ⟨ax, vs, its, m, rfl, hNs, hl, hP, hsz, hn₁, ht, he, hQ⟩ := h₁
  refine compBlockT (N := N) hNs (RR := fun acc C => compPost (model prog w) A E (some (assign (.Name y py) env)) (fun _ s' => Q .next s') acc C) P p G hG hh hcell hkind hx hl hP hsz ht he ?_
  intro D C h' tk m' ys n tl hD hC hDC hn hl' hk htl hys
  have hLn : ∀ b, s₁.heap.get? b = none → env.locals ≠ b := fun b hb q => by
    obtain ⟨o, _, _, ho, _⟩ := hn₁
    rw [q, hb] at ho; cases ho
  show wpAny _ A (assign (.Name y py) env (.ref D)) _ _ _
  refine wpAny_assign_Name (wpAny_storeName_local hy (hn₁.keeps hk) (fun h₂ hn₂ hs₂ => ?_) hp)
  refine ⟨m', hn.at' fun o e => hs₂.extBut _ _ (Ne.symm (hLn C hC)) e, fun h'' hs'' => ?_⟩
  refine hQ D h'' _ ys n tl hD (hs''.extBut _ _ hDC (hs₂.extBut _ _ (Ne.symm (hLn D hD)) hl')) (hn₂.at' fun o e => hs''.extBut _ _ (hLn C hC) e) (fun b o hb e => hs''.extBut b o (fun q => by have q' : b = C := q; rw [q', hC] at e; cases e) (hs₂.extBut b o hb (hk b o e)))
    (fun q hq => ⟨hs''.extBut _ _ (htl q hq).2.2.2 (hs₂.extBut _ _ (Ne.symm (hLn _ (htl q hq).2.1)) (htl q hq).1), (htl q hq).2.1, (htl q hq).2.2.1⟩) hys
end
end

section
theorem resetReb : True := by w_top off; trivial
/-- all that stands in the heap beside the base, the frame and the ledger, as a ledger of its own -/
theorem rebase {base h : Heap} {L : Addr} {m : Str → Option Value} {led : List (Addr × Obj)} (F : Fr base L h m) (N : News base L h led) :
    ∃ tl, News base L h (led ++ tl) ∧ (∀ p ∈ led, ∀ q ∈ tl, q.1 ≠ p.1) ∧ ∀ h', (∀ b o, base.get? b = some o → h'.get? b = some o) → News base L h' tl → ∀ b o, h.get? b = some o → b ≠ L → (∀ p ∈ led, b ≠ p.1) → h'.get? b = some o := by
  classical
  let f : Nat → Option (Addr × Obj) := fun a => match h.get? a with
    | none => none
    | some o => if (base.get? a).isSome ∨ a = L ∨ ∃ p ∈ led, a = p.1 then none else some (a, o)
  have hf : ∀ q ∈ (List.range h.objs.size).filterMap f, h.get? q.1 = some q.2 ∧ q.1 ≠ L ∧ base.get? q.1 = none ∧ ∀ p ∈ led, q.1 ≠ p.1 := by
    intro q hq
    obtain ⟨a, _, ha⟩ := List.mem_filterMap.mp hq
    simp only [f] at ha
    cases ho : h.get? a with
    | none => rw [ho] at ha; cases ha
    | some o =>
      rw [ho] at ha
      simp only at ha
      split at ha
      · cases ha
      · rename_i hn
        cases ha
        refine ⟨ho, fun e => hn (.inr (.inl e)), ?_, fun p hp e => hn (.inr (.inr ⟨p, hp, e⟩))⟩
        cases hb : base.get? a with
        | none => rfl
        | some o' => exact absurd (.inl (by rw [hb]; rfl)) hn
  refine ⟨(List.range h.objs.size).filterMap f, ?_, fun p hp q hq => (hf q hq).2.2.2 p hp, fun h' kb Nt b o e hbL hbl => ?_⟩
  · intro q hq
    rcases List.mem_append.mp hq with hq | hq
    · exact N q hq
    · have := hf q hq
      exact ⟨this.1, this.2.1, this.2.2.1⟩
  · cases hb : base.get? b with
    | some o' =>
      have := F.keep _ _ hb
      rw [e] at this
      cases this
      exact kb _ _ hb
    | none =>
      have hm : (b, o) ∈ (List.range h.objs.size).filterMap f := by
        refine List.mem_filterMap.mpr ⟨b, List.mem_range.mpr (Heap.lt_size e), ?_⟩
        simp only [f]
        rw [e]
        simp only
        rw [if_neg]
        rintro (h1 | h1 | ⟨p, hp, h1⟩)
        · rw [hb] at h1; cases h1
        · exact hbL h1
        · exact hbl p hp h1
      exact (Nt _ hm).1
end

section
theorem resetTk : True := by w_top off; trivial
section
variable {M : Model} {A : Around} {E : Value → Shared → Prop} {s : Shared}
theorem is_strs {a b : Str} {t u : Tok} {Q : Value → Shared → Prop} (h0 : (t == 0 || u == 0) = false) (hne : t = u → a = b) (hb : NoneBooked s.heap) (hq : ∀ c : Bool, (c = true → a = b) → Q (.bool c) s) :
    wpAny M A (compareOp .Is (.str a t) (.str b u)) Q E s := by
  show wpAny M A (do pure (.bool (← isSame (.str a t) (.str b u)))) Q E s
  refine wpAny_bind ?_
  show wpAny M A (isSame.created (a == b) t u) _ E s
  unfold isSame.created
  refine wpAny_ite ?_
  split
  · rename_i h; rw [h0] at h; exact absurd h Bool.false_ne_true
  refine wpAny_ite ?_
  split
  · rename_i h; exact wpAny_pure (wpAny_pure (hq _ fun _ => hne (by simpa using h)))
  refine wpAny_ite ?_
  split
  · exact wpAny_pure (wpAny_pure (hq _ fun x => nomatch x))
  · rename_i h
    have e : a = b := by simpa using h
    refine wpAny_bind (wpAny_sharingNotTold_none hb ?_)
    first | rw [if_neg Bool.false_ne_true] | simp only [Bool.false_eq_true, if_false]
    refine wpAny_bind (wpAny_sharingNotTold_none hb ?_)
    first | rw [if_neg Bool.false_ne_true] | simp only [Bool.false_eq_true, if_false]
    exact wpAny_bind (wpAny_rule (wpAny_bind (wpAny_askSetting (wpAny_pure (wpAny_pure (hq _ fun _ => e))))))
end
theorem booked {w : World} {h : Heap} (X : (hd.heap_1 w.params).In h) {mc : Str → Option Value} (hn : h.Ns cStatics mc) : mc sharingNotToldKey = none := by
  obtain ⟨o, es, ep, ho, hd', hk, hf⟩ := hn
  have e := X 2 _ rfl
  have e' : h.get? cStatics = _ := e
  rw [ho] at e'
  have e2 := congrArg Obj.data (Option.some.inj e')
  rw [hd'] at e2
  rw [← hf]
  have e3 := Data.dict.inj e2
  rw [e3.1]
  rfl
end

section
theorem resetCnt : True := by w_top off; trivial
local macro_rules | `(tactic| walk_at "zz pad") => `(tactic| fail)
local macro_rules | `(tactic| walk_at "zz pad") => `(tactic| fail)
local macro_rules | `(tactic| walk_at "zz pad") => `(tactic| fail)
local macro_rules | `(tactic| walk_at "zz pad") => `(tactic| fail)
local macro_rules | `(tactic| walk_at "subscriptTail") => `(tactic| (k_here; (with_reducible show wpAny _ _ (subscriptTail _ _ (Value.ref _) (Value.int 0 _)) _ _ _); k_dflt (refine' menu_at ?N ?m ?h0 ?hhi ?hx ?_ ?s; (case N => k_asm); (case m => k_mem); (case h0 => decide); (case hhi => decide); (case hx => rfl); (case s => with_unfolding_all rfl); k_whole)))

/-- a tongue that was told: none, or a text, its token N or more -/
def OLo (N : Nat) (v : Value) (o : Option Str) : Prop := match o with
  | none => v = .none
  | some x => ∃ t : Nat, v = .str x t ∧ N ≤ t
/-- a tongue that is wished: none, or a text, its token below N -/
def OHi (N : Nat) (v : Value) (o : Option Str) : Prop := match o with
  | none => v = .none
  | some x => ∃ t : Nat, v = .str x t ∧ 0 < t ∧ t < N
theorem toks_apart {a b : Str} {N t u : Nat} (h1 : N ≤ t) (h2 : 0 < u) (h3 : u < N) : ((t == 0 || u == 0) = false) ∧ (t = u → a = b) := by
  refine ⟨?_, fun e => by omega⟩
  simp
  omega
theorem nbK {w : World} {h h' : Heap} {loose : List Str} {mean : ExcName → Option Value} {mg mb : Str → Option Value} (X : (hd.heap_1 w.params).In h) (T : Top vwP loose mean mg mb h) (k : ∀ b o, h.get? b = some o → h'.get? b = some o) : NoneBooked h' :=
  let ⟨_, hn, _⟩ := T.nodigits
  ⟨_, hn.keeps k, booked X hn⟩
theorem filter_take {α : Type} [DecidableEq α] (l : List α) (o : α) (i : Nat) (a : α) (h : l[i]? = some a) : ((l.take (i + 1)).filter (fun q => decide (q = o))).length = ((l.take i).filter (fun q => decide (q = o))).length + (if a = o then 1 else 0) := by
  rw [List.take_add_one, h, List.filter_append]
  by_cases e : a = o
  · simp [e]
  · simp [e]
local macro_rules | `(tactic| walk_at "compareOp Is str str") => `(tactic| (k_here; k_dflt (refine' is_strs ?a ?b ?c ?_; (case a => exact (toks_apart (a := ⟨#[]⟩) (b := ⟨#[]⟩) (by assumption) (by assumption) (by assumption)).1); (case b => exact (toks_apart (by assumption) (by assumption) (by assumption)).2); (case c => exact nbK (by assumption) (by assumption) (Fr.keep (by k_asm))); k_whole); intro c9 hc9))
theorem lname_L {M : Model} {A : Around} {E : Value → Shared → Prop} {s : Shared} {h₀ : Heap} {C : Addr} {m : Str → Option Value} {env : Env} {x : Str} {v : Value} {Q : Value → Shared → Prop} (F : Fr h₀ C s.heap m) (hv : m x = some v) (h : Q v s) (hL : env.locals = C) (hk : env.scope.kind = .function) (hx : env.kindOf x = some .local) : wpAny M A (loadName env x) Q E s :=
  wpAny_loadName_local hk hx (hL ▸ F.ns) hv h
local macro_rules | `(tactic| walk_at "loadName") => `(tactic| (k_here; k_dflt (refine' lname_L ?F ?v ?_ ?L ?a ?b; (case F => k_asm); (case L => rfl); (case a => rfl); (case b => rfl); (case v => first | assumption | rfl | ((rw [if_neg (by decide)]); assumption)); k_whole)))
theorem countOf_ok {prog : Program} {w : World} {A : Around} {s : Shared} {loose : List Str} {mean : ExcName → Option Value} {mg mb : Str → Option Value} {E : Value → Shared → Prop}
    (X : (hd.heap_1 w.params).In s.heap) (T : Top vwP loose mean mg mb s.heap) (hh : A.handled = none) (hroom : A.depth + 4 < recursionLimit) {l : Addr} {vs : List Value} {ts : List (Option Str)} {N : Nat} {v : Value} {o : Option Str}
    (hl : s.heap.IsList l vs.toArray) (hts : PySem.Paired (OLo N) vs ts) (hvs : vs.length ≤ 200) (hv : OHi N v o) :
    wpAny (model prog w) A (call (.ref 45) [.ref l, v]) (PK s fun _ v => ∃ tk, v = .int ((ts.filter (fun q => decide (q = o))).length : Nat) tk) E s := by
  refine wpAny_call ?_
  k_dflt (refine' callP X T.nolimit ?k6 ?k7 ?k8 ?k9 ?kB ?_ ?c5 ?c2 ?c3 ?c4; (case k6 => k_is); (case k7 => k_is); (case k8 => omega); (case k9 => first | exact BindsTo.of_eq rfl | exact binds_K (by k_in) rfl (by k_is) rfl rfl rfl); (case c5 => decide); (case kB => exact locs rfl); (case c2 => exact rfl); (case c3 => exact rfl); (case c4 => exact rfl))
  intro h1 F1
  have N1 : News s.heap s.heap.objs.size h1 [] := News.nil
  k_steps
  refine ⟨l, vs, _, [], fun i m led => led = [] ∧ m (Str.ofString "b") = some v ∧ ∃ tk : Nat, m (Str.ofString "count") = some (.int (((ts.take i).filter (fun q => decide (q = o))).length : Nat) tk), rfl, by assumption, by assumption, ⟨rfl, rfl, _, rfl⟩, fun i m led h _ F3 _ => hl.at fun o q => F3.keep _ _ q, ?_, ?_⟩
  · rintro I i x m3 led h3 tk3 oI E3 hx ⟨rfl, hm1, tk0, hm2⟩ F3 N3 hoff
    obtain ⟨q, hq, hxq⟩ := Paired.at hts hx
    have hft := filter_take ts o i q hq
    have hcn : ((ts.take i).filter (fun q => decide (q = o))).length ≤ 200 := by
      have e1 := List.length_filter_le (fun q => decide (q = o)) (ts.take i)
      have e2 : (ts.take i).length ≤ ts.length := by rw [List.length_take]; exact Nat.min_le_right _ _
      have e3 := hts.length
      omega
    generalize hcd : ((ts.take i).filter (fun q => decide (q = o))).length = cn at hft hm2 hcn
    cases q with
    | none =>
      cases hxq
      cases o with
      | none =>
        cases hv
        k_steps
        all_goals exact ⟨_, _, _, [], rfl, by assumption, by assumption, fun _ h => (nomatch h), rfl, (by first | (rw [if_neg (by decide)]; exact hm1) | (rw [if_neg (by decide), if_neg (by decide)]; exact hm1)), _, (by first | (rw [if_neg (by decide), hm2, hft, if_neg (by simp_all)]; rfl) | (rw [if_pos rfl, hft, if_pos (by simp_all)]; rfl))⟩
      | some b =>
        obtain ⟨u, rfl, hu1, hu2⟩ := hv
        k_steps
        all_goals exact ⟨_, _, _, [], rfl, by assumption, by assumption, fun _ h => (nomatch h), rfl, (by first | (rw [if_neg (by decide)]; exact hm1) | (rw [if_neg (by decide), if_neg (by decide)]; exact hm1)), _, (by first | (rw [if_neg (by decide), hm2, hft, if_neg (by simp_all)]; rfl) | (rw [if_pos rfl, hft, if_pos (by simp_all)]; rfl))⟩
    | some a =>
      obtain ⟨t, rfl, ht⟩ := hxq
      cases o with
      | none =>
        cases hv
        k_steps
        all_goals exact ⟨_, _, _, [], rfl, by assumption, by assumption, fun _ h => (nomatch h), rfl, (by first | (rw [if_neg (by decide)]; exact hm1) | (rw [if_neg (by decide), if_neg (by decide)]; exact hm1)), _, (by first | (rw [if_neg (by decide), hm2, hft, if_neg (by simp_all)]; rfl) | (rw [if_pos rfl, hft, if_pos (by simp_all)]; rfl))⟩
      | some b =>
        obtain ⟨u, rfl, hu1, hu2⟩ := hv
        k_steps
        all_goals exact ⟨_, _, _, [], rfl, by assumption, by assumption, fun _ h => (nomatch h), rfl, (by first | (rw [if_neg (by decide)]; exact hm1) | (rw [if_neg (by decide), if_neg (by decide)]; exact hm1)), _, (by first | (rw [if_neg (by decide), hm2, hft, if_neg (by simp_all)]; rfl) | (rw [if_pos rfl, hft, if_pos (by simp_all)]; rfl))⟩
  · rintro m3 led h3 tk3 E3 ⟨rfl, hm1, tk0, hm2⟩ F3 N3
    k_steps
    rw [hts.length, List.take_length]
    exact PK.of (by assumption) ⟨_, rfl⟩
end
end

section
theorem resetIdx : True := by w_top off; trivial
local macro_rules | `(tactic| walk_at "subscriptTail") => `(tactic| (k_here; (with_reducible show wpAny _ _ (subscriptTail _ _ (Value.ref _) (Value.int 0 _)) _ _ _); k_dflt (refine' menu_at ?N ?m ?h0 ?hhi ?hx ?_ ?s; (case N => k_asm); (case m => k_mem); (case h0 => decide); (case hhi => decide); (case hx => rfl); (case s => with_unfolding_all rfl); k_whole)))

theorem findIdx_at {α : Type} [DecidableEq α] {l : List α} {o : α} {i : Nat} (hno : ∀ q ∈ l.take i, q ≠ o) (hq : l[i]? = some o) : l.findIdx (fun q => decide (q = o)) = i := by
  obtain ⟨hi, e⟩ := List.getElem?_eq_some_iff.mp hq
  rw [List.findIdx_eq hi]
  refine ⟨by rw [e]; simp, fun j hj => ?_⟩
  have : l[j]'(by omega) ∈ l.take i := by
    rw [List.mem_take_iff_getElem]
    exact ⟨j, by omega, rfl⟩
  simpa using hno _ this
theorem take_ne {α : Type} {l : List α} {o a : α} {i : Nat} (hno : ∀ q ∈ l.take i, q ≠ o) (hq : l[i]? = some a) (ha : a ≠ o) : ∀ q ∈ l.take (i + 1), q ≠ o := by
  intro q h
  rw [List.take_add_one, hq] at h
  rcases List.mem_append.mp h with h | h
  · exact hno q h
  · have : q = a := by simpa using h
    rw [this]; exact ha
local macro_rules | `(tactic| walk_at "compareOp Is str str") => `(tactic| (k_here; k_dflt (refine' is_strs ?a ?b ?c ?_; (case a => exact (toks_apart (a := ⟨#[]⟩) (b := ⟨#[]⟩) (by assumption) (by assumption) (by assumption)).1); (case b => exact (toks_apart (by assumption) (by assumption) (by assumption)).2); (case c => exact nbK (by assumption) (by assumption) (Fr.keep (by k_asm))); k_whole); intro c9 hc9))
local macro_rules | `(tactic| walk_at "loadName") => `(tactic| (k_here; k_dflt (refine' lname_L ?F ?v ?_ ?L ?a ?b; (case F => k_asm); (case L => rfl); (case a => rfl); (case b => rfl); (case v => first | assumption | rfl | ((rw [if_neg (by decide)]); assumption)); k_whole)))
local macro_rules | `(tactic| walk_at "exec For") => `(tactic| (k_here; k_dflt (refine' forE ?h ?F ?a ?b ?c ?L ?_ ?s; (case h => assumption); (case F => k_asm); (case a => rfl); (case b => rfl); (case c => rfl); (case L => rfl); (case s => intro _; rfl))))
theorem indexOf_ok {prog : Program} {w : World} {A : Around} {s : Shared} {loose : List Str} {mean : ExcName → Option Value} {mg mb : Str → Option Value} {E : Value → Shared → Prop}
    (X : (hd.heap_1 w.params).In s.heap) (T : Top vwP loose mean mg mb s.heap) (hh : A.handled = none) (hroom : A.depth + 4 < recursionLimit) {l : Addr} {vs : List Value} {ts : List (Option Str)} {N : Nat} {v : Value} {o : Option Str}
    (hl : s.heap.IsList l vs.toArray) (hts : PySem.Paired (OLo N) vs ts) (hvs : vs.length ≤ 200) (hv : OHi N v o) (hin : o ∈ ts) :
    wpAny (model prog w) A (call (.ref 66) [.ref l, v]) (PK s fun _ v => ∃ tk, v = .int (ts.findIdx (fun q => decide (q = o)) : Nat) tk) E s := by
  refine wpAny_call ?_
  k_dflt (refine' callP X T.nolimit ?k6 ?k7 ?k8 ?k9 ?kB ?_ ?c5 ?c2 ?c3 ?c4; (case k6 => k_is); (case k7 => k_is); (case k8 => omega); (case k9 => first | exact BindsTo.of_eq rfl | exact binds_K (by k_in) rfl (by k_is) rfl rfl rfl); (case c5 => decide); (case kB => exact locs rfl); (case c2 => exact rfl); (case c3 => exact rfl); (case c4 => exact rfl))
  intro h1 F1
  have N1 : News s.heap s.heap.objs.size h1 [] := News.nil
  k_steps
  have hl1 : h1.IsList l vs.toArray := hl.at fun o q => F1.keep _ _ q
  have hbv : (List.lookup (Str.ofString "b") (List.filterMap (fun n => Option.map (fun x => (n, x)) (List.lookup n [(Str.ofString "a", Value.ref l), (Str.ofString "b", v)])) [Str.ofString "a", Str.ofString "b"]).reverse) = some v := rfl
  have hLs : s.heap.objs.size < h1.objs.size := F1.ns.lt
  have fr : ∀ a, h1.objs.size ≤ a → s.heap.get? a = none := fun a ha => by
    cases e : s.heap.get? a with
    | none => rfl
    | some o' => exact absurd (Heap.lt_size e) (Nat.not_lt.mpr (Nat.le_trans (Nat.le_of_lt hLs) ha))
  refine call_enumerate_list hl1 fun h' he hit hz hk => ?_
  have fe : s.heap.get? (h1.objs.size + 1) = none := fr _ (Nat.le_succ _)
  have fi : s.heap.get? h1.objs.size = none := fr _ (Nat.le_refl _)
  refine ⟨_, _, l, vs.toArray, _, fun i m => m (Str.ofString "b") = some v ∧ ∀ q ∈ ts.take i, q ≠ o, rfl, Nat.succ_ne_self _, Nat.ne_of_gt (Nat.lt_succ_of_lt hLs), Nat.ne_of_gt hLs, fe, fi, he, hit, hl, F1.keeps hk, ⟨hbv, by simp⟩, ?_, ?_⟩
  · rintro i x tki m3 h3 tk3 oe oi E3 hx ⟨hm1, hno⟩ F3 N3
    obtain ⟨q, hq, hxq⟩ := Paired.at hts (by simpa using hx)
    have hi : i ≤ 200 := by
      have := (List.getElem?_eq_some_iff.mp hq).1
      have := hts.length
      omega
    cases q with
    | none =>
      cases hxq
      cases o with
      | none =>
        cases hv
        k_steps
        all_goals first | (dsimp only [StepEnd]; exact PK.of (by assumption) ⟨tki, by rw [findIdx_at hno (by first | exact hq | (rw [hq]; simp_all))]⟩) | exact ⟨_, _, _, rfl, by assumption, by assumption, (by rw [if_neg (by decide), if_neg (by decide)]; exact hm1), take_ne hno hq (by simp_all)⟩
      | some b =>
        obtain ⟨u, rfl, hu1, hu2⟩ := hv
        k_steps
        all_goals first | (dsimp only [StepEnd]; exact PK.of (by assumption) ⟨tki, by rw [findIdx_at hno (by first | exact hq | (rw [hq]; simp_all))]⟩) | exact ⟨_, _, _, rfl, by assumption, by assumption, (by rw [if_neg (by decide), if_neg (by decide)]; exact hm1), take_ne hno hq (by simp_all)⟩
    | some a =>
      obtain ⟨t, rfl, ht⟩ := hxq
      cases o with
      | none =>
        cases hv
        k_steps
        all_goals first | (dsimp only [StepEnd]; exact PK.of (by assumption) ⟨tki, by rw [findIdx_at hno (by first | exact hq | (rw [hq]; simp_all))]⟩) | exact ⟨_, _, _, rfl, by assumption, by assumption, (by rw [if_neg (by decide), if_neg (by decide)]; exact hm1), take_ne hno hq (by simp_all)⟩
      | some b =>
        obtain ⟨u, rfl, hu1, hu2⟩ := hv
        k_steps
        all_goals first | (dsimp only [StepEnd]; exact PK.of (by assumption) ⟨tki, by rw [findIdx_at hno (by first | exact hq | (rw [hq]; simp_all))]⟩) | exact ⟨_, _, _, rfl, by assumption, by assumption, (by rw [if_neg (by decide), if_neg (by decide)]; exact hm1), take_ne hno hq (by simp_all)⟩
  · rintro m' ⟨_, hno⟩
    rw [List.size_toArray, hts.length, List.take_length] at hno
    exact hno _ hin rfl
end
section
local macro_rules | `(tactic| walk_at "exec For") => `(tactic| (k_here; k_dflt (refine' forG ?h ?F ?_ ?s; (case h => assumption); (case F => k_asm); (case s => intro _; rfl))))

section
theorem resetCho : True := by w_top off; trivial
local macro_rules | `(tactic| walk_at "zz pad") => `(tactic| fail)
local macro_rules | `(tactic| walk_at "zz pad") => `(tactic| fail)
local macro_rules | `(tactic| walk_at "zz pad") => `(tactic| fail)
local macro_rules | `(tactic| walk_at "zz pad") => `(tactic| fail)

def tongueOf (t : Th) : Option Str := t.head.map (·.2)
/-- what decode_rfc2231 gives of a thing's text, the tongue's token N or more -/
def BackT (N : Nat) (h : Heap) (v : Value) (t : Th) : Prop := ∃ a, v = .ref a ∧ match t.head with
  | none => ∃ t1, IsTup h a #[.none, .none, .str t.text t1]
  | some p => ∃ (t1 : Tok) (t2 : Nat) (t3 : Tok), h.IsList a [.str p.1 t1, .str p.2 t2, .str t.text t3].toArray ∧ N ≤ t2
theorem BackT.keeps {N : Nat} {h h' : Heap} {v : Value} {t : Th} (x : BackT N h v t) (k : ∀ b o, h.get? b = some o → h'.get? b = some o) : BackT N h' v t := by
  obtain ⟨a, e, x⟩ := x
  refine ⟨a, e, ?_⟩
  cases hd : t.head with
  | none =>
    rw [hd] at x
    obtain ⟨t1, i⟩ := x
    exact ⟨t1, i.keeps k⟩
  | some p =>
    rw [hd] at x
    obtain ⟨t1, t2, t3, i, n⟩ := x
    exact ⟨t1, t2, t3, i.at fun o q => k _ _ q, n⟩
def chosen (ts wish : List (Option Str)) : Option (Nat × Nat) := match wish.find? (fun o => decide (o ∈ ts)) with
  | none => none
  | some o => some ((ts.filter fun q => decide (q = o)).length, ts.findIdx fun q => decide (q = o))
def PairAt (h : Heap) (v : Value) (r : Option (Nat × Nat)) : Prop := ∃ a, v = .ref a ∧ match r with
  | none => ∃ t, IsTup h a #[.int 0 t, .none]
  | some p => ∃ t1 t2, IsTup h a #[.int p.1 t1, .int p.2 t2]
theorem mem_of_len {ts : List (Option Str)} {o : Option Str} (h : (0 : Int) < ((ts.filter (fun q => decide (q = o))).length : Nat)) : o ∈ ts := by
  have : 0 < (ts.filter (fun q => decide (q = o))).length := by omega
  obtain ⟨a, ha⟩ := List.exists_mem_of_length_pos this
  obtain ⟨h1, h2⟩ := List.mem_filter.mp ha
  have : a = o := by simpa using h2
  rw [← this]; exact h1
theorem not_mem_of_len {ts : List (Option Str)} {o : Option Str} (h : ¬ (0 : Int) < ((ts.filter (fun q => decide (q = o))).length : Nat)) : o ∉ ts := by
  intro ho
  apply h
  have : o ∈ ts.filter (fun q => decide (q = o)) := List.mem_filter.mpr ⟨ho, by simp⟩
  have := List.length_pos_of_mem this
  omega
section
variable {prog : Program} {w : World} {A : Around} {E : Value → Shared → Prop} {s : Shared} {l : Addr} {value slice : PySem.Expr} {k : Int} {u : Tok} {Q : Value → Shared → Prop}
theorem list_at {vs : List Value} {v : Value} (hl : s.heap.IsList l vs.toArray) (h0 : 0 ≤ k) (hhi : k < 2 ^ 63) (hx : vs[k.toNat]? = some v) (h : Q v s)
    (hs : subscripted slice false (.ref l) (.int k u) = operate [.ref l, .int k u] (getItem (.ref l) (.int k u))) : wpAny (model prog w) A (subscriptTail value slice (.ref l) (.int k u)) Q E s :=
  tail_any hl.typeIs slot_list_getitem.lookup (wpAny_getItem_list hl h0 hhi (by simpa using hx) h) hs
end
theorem chosen_at {ts wish : List (Option Str)} {i : Nat} {o : Option Str} (hno : ∀ q ∈ wish.take i, q ∉ ts) (hq : wish[i]? = some o) (ho : o ∈ ts) : chosen ts wish = some ((ts.filter fun q => decide (q = o)).length, ts.findIdx fun q => decide (q = o)) := by
  unfold chosen
  rw [find_at (i := i) (q := o) (by rw [List.find?_eq_none]; intro q h; simpa using hno q h) hq (by simpa using ho)]
theorem chosen_none {ts wish : List (Option Str)} (hno : ∀ q ∈ wish, q ∉ ts) : chosen ts wish = none := by
  unfold chosen
  have : wish.find? (fun o => decide (o ∈ ts)) = none := by rw [List.find?_eq_none]; intro q h; simpa using hno q h
  rw [this]
theorem take_nin {wish ts : List (Option Str)} {o : Option Str} {i : Nat} (hno : ∀ q ∈ wish.take i, q ∉ ts) (hq : wish[i]? = some o) (ho : o ∉ ts) : ∀ q ∈ wish.take (i + 1), q ∉ ts := by
  intro q h
  rw [List.take_add_one, hq] at h
  rcases List.mem_append.mp h with h | h
  · exact hno q h
  · have : q = o := by simpa using h
    rw [this]; exact ho
theorem paired_map {α β : Type} {R : Value → β → Prop} {f : α → β} : ∀ {vs : List Value} {l : List α}, PySem.Paired (fun y a => R y (f a)) vs l → PySem.Paired R vs (l.map f)
  | _, _, .nil => .nil
  | _, _, .cons a r => .cons a (paired_map r)
local macro_rules | `(tactic| walk_at "subscriptTail") => `(tactic| (k_here; (with_reducible show wpAny _ _ (subscriptTail _ _ (Value.ref _) (Value.int _ _)) _ _ _); k_dflt (refine' list_at ?l ?h0 ?hhi ?hx ?_ ?s; (case l => assumption); (case h0 => decide); (case hhi => decide); (case hx => rfl); (case s => with_unfolding_all rfl); k_whole)))
local macro_rules | `(tactic| walk_at "call ref") => `(tactic| (k_here; (with_reducible show wpAny _ _ (call (Value.ref 45) _ _) _ _ _); k_dflt (refine' pk_K (countOf_ok (Frag.In.keeps ?X (Fr.keep ?F1)) (Top.keeps ?T (Fr.keep ?F2)) ?hh ?r ?hl ?ht ?hv ?ho) ?F ?N ?_; (case X => k_asm); (case T => k_asm); (case F1 => k_asm); (case F2 => k_asm); (case F => k_asm); (case N => k_asm); (case r => ktr_room); (case hh => first | assumption | rfl); (case hl => exact led_list (by k_asm) (by k_mem)); (case ht => assumption); (case hv => assumption); (case ho => assumption); k_whole); intro v' h' tk' g' kp' F' N'; obtain ⟨tk9, e9⟩ := g'; subst e9; (try k_sweep)))
local macro_rules | `(tactic| walk_at "call ref") => `(tactic| (k_here; (with_reducible show wpAny _ _ (call (Value.ref 66) _ _) _ _ _); k_dflt (refine' pk_K (indexOf_ok (Frag.In.keeps ?X (Fr.keep ?F1)) (Top.keeps ?T (Fr.keep ?F2)) ?hh ?r ?hl ?ht ?hv ?ho ?hi) ?F ?N ?_; (case X => k_asm); (case T => k_asm); (case F1 => k_asm); (case F2 => k_asm); (case F => k_asm); (case N => k_asm); (case r => ktr_room); (case hh => first | assumption | rfl); (case hl => exact led_list (by k_asm) (by k_mem)); (case ht => assumption); (case hv => assumption); (case ho => assumption); (case hi => exact mem_of_len (by assumption)); k_whole); intro v' h' tk' g' kp' F' N'; obtain ⟨tk9, e9⟩ := g'; subst e9; (try k_sweep)))
local macro_rules | `(tactic| walk_at "exec Assign cons ListComp") => `(tactic| (k_here; refine Held.out ?_))
theorem chosen_ok {prog : Program} {w : World} {A : Around} {s : Shared} {loose : List Str} {mean : ExcName → Option Value} {mg mb : Str → Option Value} {E : Value → Shared → Prop}
    (X : (hd.heap_1 w.params).In s.heap) (T : Top vwP loose mean mg mb s.heap) (hh : A.handled = none) (hroom : A.depth + 8 < recursionLimit) {l wl : Addr} {vs ws : List Value} {ths : List Th} {wish : List (Option Str)} {N : Nat}
    (hl : s.heap.IsList l vs.toArray) (hts : PySem.Paired (BackT N s.heap) vs ths) (hvs : vs.length ≤ 200) (hwl : s.heap.IsList wl ws.toArray) (hws : PySem.Paired (OHi N) ws wish) :
    wpAny (model prog w) A (call (.ref 281) [.ref l, .ref wl]) (PK s fun h v => PairAt h v (chosen (ths.map tongueOf) wish)) E s := by
  refine wpAny_call ?_
  k_dflt (refine' callP X T.nolimit ?k6 ?k7 ?k8 ?k9 ?kB ?_ ?c5 ?c2 ?c3 ?c4; (case k6 => k_is); (case k7 => k_is); (case k8 => omega); (case k9 => first | exact BindsTo.of_eq rfl | exact binds_K (by k_in) rfl (by k_is) rfl rfl rfl); (case c5 => decide); (case kB => exact locs rfl); (case c2 => exact rfl); (case c3 => exact rfl); (case c4 => exact rfl))
  intro h1 F1
  have N1 : News s.heap s.heap.objs.size h1 [] := News.nil
  k_steps
  (rename News _ _ _ _ => N2)
  (rename Fr _ _ _ _ => F2)
  refine Held.mk ?_
  (with_reducible refine' assignCompG (P := BackT N s.heap) (p := fun _ => true) (G := fun _ y q => OLo N y (tongueOf q)) (fun _ _ _ _ _ z => z) ?h0 ?hsw ?h1 ?h2 ?h3 ?h4 ?h5 ?hy ?hp ?_ ?h6); (case h0 => exact hh); (case hsw => with_unfolding_all rfl); (case h1 => with_unfolding_all rfl); (case h2 => decide); (case h3 => with_unfolding_all rfl); (case h4 => decide); (case h5 => with_unfolding_all rfl); (case hy => with_unfolding_all rfl); (case hp => with_unfolding_all rfl); (case h6 => intro _; with_unfolding_all rfl)
  walk1
  refine ⟨l, vs, ths, _, rfl, hl.at fun o q => F2.keep _ _ q, hts, Nat.le_trans hvs (by decide), F2.ns, ?_, ?_, ?_⟩
  · intro C v q h3 tk3 m3 l3 E3 hC hP F3 hm N3
    k_steps
    exact ⟨_, _, [], rfl, by assumption, by assumption, fun _ h => (nomatch h), rfl⟩
  · intro C v q h3 tk3 m3 l3 E3 hC hP hp F3 hm N3
    obtain ⟨a, rfl, hP⟩ := hP
    cases hq : q.head with
    | none =>
      rw [hq] at hP
      obtain ⟨t1, i⟩ := hP
      have i' := i.keeps F2.keep
      k_steps
      exact ⟨_, _, [], rfl, F3, N3, fun _ h => (nomatch h), by rw [tongueOf, hq]; rfl⟩
    | some p =>
      rw [hq] at hP
      obtain ⟨t1, t2, t3, i, hn⟩ := hP
      have i' := i.at fun o q => F3.keep _ _ (F2.keep _ _ q)
      k_steps
      exact ⟨_, _, [], rfl, F3, N3, fun _ h => (nomatch h), by rw [tongueOf, hq]; exact ⟨t2, rfl, hn⟩⟩
  · intro D h3 tk3 ys n3 tl hD hgD hns3 hk3 htl hys
    have F3 := Fr.keepL F2 hns3 hk3
    have N3 := News.addL F2 N2 hk3 hD hgD
    clear hk3 hns3 F2 N2 htl
    rw [List.filter_eq_self.mpr (fun _ _ => rfl)] at hys
    have hyl : ys.length ≤ 200 := by
      have e1 := hys.length
      have e2 := hts.length
      omega
    replace hys := paired_map (f := tongueOf) hys
    generalize ths.map tongueOf = ts at hys ⊢
    k_steps
    refine ⟨wl, ws, _, _, fun i m led => led = [(D, plainL ys n3)] ∧ m (Str.ofString "tongues") = some (.ref D) ∧ ∀ q ∈ wish.take i, q ∉ ts, rfl, by assumption, by assumption, ⟨rfl, rfl, by simp⟩, fun i m led h _ F3 _ => hwl.at fun o q => F3.keep _ _ q, ?_, ?_⟩
    · rintro I i x m3 led h3 tk3 oI E3 hx ⟨rfl, hm1, hno⟩ F3 N3 hoff
      obtain ⟨q, hq, hxq⟩ := Paired.at hws hx
      k_steps
      · dsimp only [TurnEnd]
        (rename News _ _ _ _ => N9)
        refine PK.of (by assumption) ⟨_, rfl, ?_⟩
        rw [chosen_at hno hq (mem_of_len (by assumption))]
        exact ⟨_, _, _, (N9 _ (List.Mem.head _)).1, rfl, _, rfl⟩
      · exact ⟨_, _, _, [(D, plainL ys n3)], rfl, by assumption, by assumption, hoff, rfl, (by rw [if_neg (by decide), if_neg (by decide)]; exact hm1), take_nin hno hq (not_mem_of_len (by assumption))⟩
    · rintro m3 led h3 tk3 E3 ⟨rfl, hm1, hno⟩ F3 N3
      k_steps
      (rename News _ _ _ _ => N9)
      rw [hws.length, List.take_length] at hno
      refine PK.of (by assumption) ⟨_, rfl, ?_⟩
      rw [chosen_none hno]
      exact ⟨_, _, (N9 _ (List.Mem.head _)).1, rfl, _, rfl⟩
end

section
theorem resetBes : True := by w_top off; trivial
local macro_rules | `(tactic| walk_at "zz pad") => `(tactic| fail)
local macro_rules | `(tactic| walk_at "zz pad") => `(tactic| fail)
local macro_rules | `(tactic| walk_at "zz pad") => `(tactic| fail)
local macro_rules | `(tactic| walk_at "zz pad") => `(tactic| fail)
local macro_rules | `(tactic| walk_at "zz pad") => `(tactic| fail)
local macro_rules | `(tactic| walk_at "zz pad") => `(tactic| fail)
local macro_rules | `(tactic| walk_at "zz pad") => `(tactic| fail)
local macro_rules | `(tactic| walk_at "zz pad") => `(tactic| fail)
local macro_rules | `(tactic| walk_at "zz pad") => `(tactic| fail)

local macro_rules | `(tactic| walk_at "exec Assign cons ListComp") => `(tactic| (k_here; refine Held.out ?_))

def ranksOf (ts wish : List (Option Str)) : List Int := ts.map fun o => ((wish.findIdx fun q => decide (q = o) : Nat) : Int)
theorem paired_mem {α : Type} {R : Value → α → Prop} : ∀ {vs : List Value} {l : List α}, PySem.Paired R vs l → PySem.Paired (fun v a => R v a ∧ a ∈ l) vs l
  | _, _, .nil => .nil
  | _, _, .cons a r => .cons ⟨a, List.mem_cons_self⟩ (PySem.Paired.mono (fun _ _ x => ⟨x.1, List.mem_cons_of_mem _ x.2⟩) (paired_mem r))
theorem intsOf {α : Type} {f : α → Int} : ∀ {vs : List Value} {l : List α}, PySem.Paired (fun y a => ∃ t, y = .int (f a) t) vs l → IntsAre vs (l.map f)
  | _, _, .nil => .nil
  | _, _, .cons ⟨t, e⟩ r => by subst e; exact .cons _ t (intsOf r)
def OVal (v : Value) (o : Option Str) : Prop := match o with
  | none => v = .none
  | some x => ∃ t, v = .str x t
theorem OHi.val {N : Nat} {v : Value} {o : Option Str} (h : OHi N v o) : OVal v o := by
  cases o with
  | none => exact h
  | some x => obtain ⟨t, e, _⟩ := h; exact ⟨t, e⟩
def sameO : Value → Value → Bool
  | .none, .none => true
  | .str a _, .str b _ => a == b
  | _, _ => false
theorem sameO_at {y v : Value} {p o : Option Str} (hy : OVal y p) (hv : OVal v o) : sameO y v = decide (p = o) := by
  cases p with
  | none =>
    cases hy
    cases o with
    | none => cases hv; rfl
    | some b => obtain ⟨t, rfl⟩ := hv; rfl
  | some a =>
    obtain ⟨t, rfl⟩ := hy
    cases o with
    | none => cases hv; rfl
    | some b =>
      obtain ⟨u, rfl⟩ := hv
      show (a == b) = _
      by_cases e : a = b
      · simp [e]
      · simp [e]
theorem sameO_eq {A : Around} {s : Shared} {y v : Value} {p o : Option Str} (hy : OVal y p) (hv : OVal v o) : PySem.SeqAt.EqAt A s y v (sameO y v) := by
  cases p with
  | none =>
    cases hy
    cases o with
    | none => cases hv; exact PySem.SeqAt.EqAt.same _
    | some b => obtain ⟨t, rfl⟩ := hv; exact PySem.SeqAt.EqAt.none_str _ _
  | some a =>
    obtain ⟨t, rfl⟩ := hy
    cases o with
    | none => cases hv; exact PySem.SeqAt.EqAt.str_none _ _
    | some b => obtain ⟨u, rfl⟩ := hv; exact PySem.SeqAt.EqAt.str_str _ _ _ _
theorem index_gen {α : Type} {R : Value → α → Prop} {prog : Program} {w : World} {A : Around} {E : Value → Shared → Prop} {s : Shared} {l : Addr} {ws : List Value} {wish : List α} {v : Value} {Q : Value → Shared → Prop} (e : Value → Bool) (f : α → Bool) (he : ∀ y a, R y a → e y = f a) (heq : ∀ y a, R y a → PySem.SeqAt.EqAt A.in1 s y v (e y))
    (hl : s.heap.IsList l ws.toArray) (hws : PySem.Paired R ws wish) (hin : ∃ a, a ∈ wish ∧ f a = true) (hsz : ws.length ≤ 1000)
    (h : Q (.int (wish.findIdx f : Nat) s.toks) { s with toks := s.toks + 1 }) : wpAny (model prog w) A (call (.builtin "list.index") [.ref l, v]) Q E s := by
  obtain ⟨⟨cls, dd, data, sl⟩, ho, hc, n, hd⟩ := id hl
  simp only at hc hd
  subst hc hd
  have hlen := hws.length
  have hj : wish.findIdx f < wish.length := List.findIdx_lt_length.mpr hin
  have at' : ∀ m (hm : m < ws.toArray.size), e ws.toArray[m] = f (wish[m]'(by rw [← hlen]; simpa using hm)) := by
    intro m hm
    have hm' : m < ws.length := by simpa using hm
    obtain ⟨b, hb, hb2⟩ := Paired.at hws (List.getElem?_eq_getElem hm')
    have q : wish[m]'(by omega) = b := by
      have := List.getElem?_eq_getElem (l := wish) (i := m) (by omega)
      rw [hb] at this
      exact (Option.some.inj this).symm
    rw [q]
    simpa using he _ _ hb2
  refine call_meets PySem.F.slot_list_index ⟨_, ho, rfl⟩ PySem.F.entry_list_index (PySem.F.args_list_index_2 _ _)
    (PySem.SeqAt.list_indexAt l ws.toArray n dd sl v e (wish.findIdx f) (by simpa [hlen] using hj) (by omega) ?_ ?_) ⟨ho, fun y hy => ?_, h⟩
  · rw [at' _ (by simpa [hlen] using hj)]
    exact List.findIdx_getElem (w := hj)
  · intro m hm hlt
    rw [at' m hm]
    have := List.not_of_lt_findIdx hlt
    simpa using this
  · obtain ⟨m, hm, rfl⟩ := List.mem_iff_getElem.mp (show y ∈ ws by simpa using hy)
    obtain ⟨b, hb, hb2⟩ := Paired.at hws (List.getElem?_eq_getElem hm)
    exact heq _ _ hb2
theorem index_opts {prog : Program} {w : World} {A : Around} {E : Value → Shared → Prop} {s : Shared} {l : Addr} {ws : List Value} {wish : List (Option Str)} {N : Nat} {v : Value} {o : Option Str} {Q : Value → Shared → Prop} (hl : s.heap.IsList l ws.toArray) (hws : PySem.Paired (OHi N) ws wish) (hv : OVal v o) (hin : o ∈ wish) (hsz : ws.length ≤ 1000)
    (h : Q (.int (wish.findIdx (fun q => decide (q = o)) : Nat) s.toks) { s with toks := s.toks + 1 }) : wpAny (model prog w) A (call (.builtin "list.index") [.ref l, v]) Q E s :=
  index_gen (fun y => sameO y v) (fun q => decide (q = o)) (fun _ _ z => sameO_at z.val hv) (fun _ _ z => sameO_eq z.val hv) hl hws ⟨o, hin, by simp⟩ hsz h
def IV (y : Value) (a : Int) : Prop := ∃ t, y = .int a t
def sameI (k : Int) : Value → Bool
  | .int a _ => a == k
  | _ => false
theorem index_ints {prog : Program} {w : World} {A : Around} {E : Value → Shared → Prop} {s : Shared} {l : Addr} {ws : List Value} {ns : List Int} {k : Int} {u : Tok} {Q : Value → Shared → Prop} (hl : s.heap.IsList l ws.toArray) (hws : PySem.Paired IV ws ns) (hin : k ∈ ns) (hsz : ws.length ≤ 1000)
    (h : Q (.int (ns.findIdx (fun q => decide (q = k)) : Nat) s.toks) { s with toks := s.toks + 1 }) : wpAny (model prog w) A (call (.builtin "list.index") [.ref l, .int k u]) Q E s :=
  index_gen (sameI k) (fun q => decide (q = k)) (fun _ a z => by obtain ⟨t, rfl⟩ := z; by_cases e : a = k <;> simp [sameI, e]) (fun _ a z => by obtain ⟨t, rfl⟩ := z; exact PySem.SeqAt.EqAt.int_int _ _ _ _) hl hws ⟨k, hin, by simp⟩ hsz h
theorem pos_of_ne {ns : List Int} (h : decide (ns = []) = false) : 0 < ns.length := List.length_pos_iff.mpr (by simpa using h)
theorem getIndex {M : Model} {A : Around} {E : Value → Shared → Prop} {s : Shared} {l : Addr} {items : Array Value} {n : Nat} {pl : Sem Bool} {Q : Value × List Value → Shared → Prop} (hl : s.heap.get? l = some (listOf items n)) (h : Q (.builtin "list.index", [.ref l]) s) : wpAny M A (getMethod (.ref l) (Str.ofString "index") pl) Q E s :=
  getMethod_builtin (show s.TypeIs (.ref l) "list" from ⟨_, hl, rfl⟩) PySem.F.plainAttrs_list PySem.F.slot_list_index PySem.F.type_list_index (fun a e => by cases e; exact ⟨_, hl, rfl⟩) h
def IsBest (ns : List Int) (r : Option (Nat × Nat)) : Prop := (ns = [] ∧ r = none) ∨ ∃ M, M ∈ ns ∧ (∀ a, a ∈ ns → M ≤ a) ∧ r = some (ns.count M, ns.findIdx fun q => decide (q = M))
local macro_rules | `(tactic| walk_at "getMethod ref") => `(tactic| (k_here; (with_reducible show wpAny _ _ (getMethod (Value.ref _) (PySem.Str.ofString "index") _) _ _ _); k_dflt (refine' getIndex ?l ?_; (case l => assumption); k_whole)))
local macro_rules | `(tactic| walk_at "call builtin:min") => `(tactic| (k_here; k_dflt (refine' min_list_N ?h ?F ?N ?l ?i ?n ?_; (case h => first | assumption | rfl); (case F => k_asm); (case N => k_asm); (case l => exact led_list (by k_asm) (by k_mem)); (case i => assumption); (case n => exact pos_of_ne (by assumption))); intro h' M' t' tk' F' N' hM' hm'; (try k_sweep)))
local macro_rules | `(tactic| walk_at "call builtin:list.index") => `(tactic| (k_here; k_dflt (refine' index_opts ?l ?a ?b ?c ?d ?_; (case l => assumption); (case a => assumption); (case b => assumption); (case c => assumption); (case d => assumption); k_whole)))
local macro_rules | `(tactic| walk_at "call builtin:list.index") => `(tactic| (k_here; k_dflt (refine' index_ints ?l ?a ?c ?d ?_; (case l => exact led_list (by k_asm) (by k_mem)); (case a => assumption); (case c => assumption); (case d => omega); k_whole)))
theorem best_ok {prog : Program} {w : World} {A : Around} {s : Shared} {loose : List Str} {mean : ExcName → Option Value} {mg mb : Str → Option Value} {E : Value → Shared → Prop}
    (X : (hd.heap_1 w.params).In s.heap) (T : Top vwP loose mean mg mb s.heap) (hh : A.handled = none) (hroom : A.depth + 8 < recursionLimit) (hu : A.units + 100 < cLine) {l wl : Addr} {vs ws : List Value} {ths : List Th} {wish : List (Option Str)} {N : Nat}
    (hl : s.heap.IsList l vs.toArray) (hts : PySem.Paired (ThAt s.heap) vs ths) (hvs : vs.length ≤ 200) {nw : Nat} (hwl : s.heap.get? wl = some (listOf ws.toArray nw)) (hws : PySem.Paired (OHi N) ws wish) (hws2 : ws.length ≤ 1000) (hin : ∀ t ∈ ths, tongueOf t ∈ wish) :
    wpAny (model prog w) A (call (.ref 286) [.ref l, .ref wl]) (PK s fun h v => ∃ r, PairAt h v r ∧ IsBest (ths.map fun q => ((wish.findIdx fun z => decide (z = tongueOf q) : Nat) : Int)) r) E s := by
  refine wpAny_call ?_
  k_dflt (refine' callNC (news := []) X T.nolimit ?N0 ?k6 ?k7 ?k8 ?k9 ?kB ?kD ?_ ?c2 ?c3 ?c4; (case N0 => intro p hp; cases hp); (case k6 => k_is); (case k7 => k_is); (case k8 => omega); (case k9 => exact BindsTo.of_eq rfl); (case kB => exact rfl); (case kD => decide +kernel); (case c2 => exact rfl); (case c3 => exact rfl); (case c4 => exact rfl))
  intro g h1 tk1 cells keep back F1 N1 Y hlt
  have kg : ∀ b o, s.heap.get? b = some o → g.get? b = some o := fun b o q => keep b o q fun _ hp => nomatch hp
  replace X := X.keeps kg
  replace T := T.keeps kg
  replace hts : PySem.Paired (ThAt g) vs ths := PySem.Paired.mono (fun _ _ y => y.keeps kg) hts
  have hl : g.IsList l vs.toArray := hl.at fun o q => kg _ _ q
  replace hwl := kg _ _ hwl
  k_cells Y
  simp only [List.cons_append, List.nil_append] at N1
  k_steps
  (rename News _ _ _ _ => N2)
  (rename Fr _ _ _ _ => F2)
  try simp only [List.nil_append] at N2
  (rename Obj => oc)
  (rename oc.data = _ => hoc)
  replace hoc : oc.data = .cell (some (.ref wl)) := hoc
  have hc2 := (N2 _ (List.Mem.head _)).1
  refine Held.mk ?_
  (with_reducible refine' assignCompG (P := fun v t => ThAt g v t ∧ t ∈ ths) (p := fun _ => true) (G := fun _ y q => ∃ t, y = .int ((wish.findIdx fun z => decide (z = tongueOf q) : Nat) : Int) t) (fun _ _ _ _ _ z => z) ?h0 ?hsw ?h1 ?h2 ?h3 ?h4 ?h5 ?hy ?hp ?_ ?h6); (case h0 => exact hh); (case hsw => with_unfolding_all rfl); (case h1 => with_unfolding_all rfl); (case h2 => decide); (case h3 => with_unfolding_all rfl); (case h4 => decide); (case h5 => with_unfolding_all rfl); (case hy => with_unfolding_all rfl); (case hp => with_unfolding_all rfl); (case h6 => intro _; with_unfolding_all rfl)
  walk1
  refine ⟨l, vs, ths, _, rfl, hl.at fun o q => F2.keep _ _ q, paired_mem hts, Nat.le_trans hvs (by decide), F2.ns, ?_, ?_, ?_⟩
  · intro C v q h3 tk3 m3 l3 E3 hC hP F3 hm N3
    k_steps
    exact ⟨_, _, [], rfl, by assumption, by assumption, fun _ h => (nomatch h), rfl⟩
  · intro C v q h3 tk3 m3 l3 E3 hC hP hp F3 hm N3
    obtain ⟨⟨a, rfl, hP⟩, hqm⟩ := hP
    have hqin := hin q hqm
    have hwl3 := F3.keep _ _ (F2.keep _ _ hwl)
    have hwl4 : h3.IsList wl ws.toArray := ⟨_, hwl3, rfl, nw, rfl⟩
    cases hq : q.head with
    | none =>
      rw [hq] at hP
      obtain ⟨t1, i⟩ := hP
      have i' := i.keeps F2.keep
      have hov : OVal .none (tongueOf q) := by rw [tongueOf, hq]; rfl
      k_steps
      exact ⟨_, _, [], rfl, by assumption, by assumption, fun _ h => (nomatch h), _, rfl⟩
    | some p =>
      rw [hq] at hP
      obtain ⟨t1, t2, t3, i⟩ := hP
      have i' := i.keeps F2.keep
      have hov : OVal (.str p.2 t2) (tongueOf q) := by rw [tongueOf, hq]; exact ⟨t2, rfl⟩
      k_steps
      exact ⟨_, _, [], rfl, by assumption, by assumption, fun _ h => (nomatch h), _, rfl⟩
  · intro D h3 tk3 ys n3 tl hD hgD hns3 hk3 htl hys
    have F3 := Fr.keepL F2 hns3 hk3
    have N3 := News.addL F2 N2 hk3 hD hgD
    clear hk3 hns3 F2 N2 htl
    rw [List.filter_eq_self.mpr (fun _ _ => rfl)] at hys
    replace hys : PySem.Paired (fun y (q : Th) => ∃ t, y = .int ((wish.findIdx fun z => decide (z = tongueOf q) : Nat) : Int) t) ys ths := hys
    have hyl : ys.length ≤ 200 := by
      have e1 := hys.length
      have e2 := hts.length
      omega
    have hI := intsOf hys
    replace hys : PySem.Paired IV ys _ := paired_map (f := fun (q : Th) => ((wish.findIdx fun z => decide (z = tongueOf q) : Nat) : Int)) hys
    have hIl := hI.length
    generalize (ths.map fun q => ((wish.findIdx fun z => decide (z = tongueOf q) : Nat) : Int)) = ns at hI hIl hys ⊢
    k_steps
    · (rename News _ _ _ _ => N9)
      (rename Fr _ _ _ _ => F9)
      exact ⟨⟨none, ⟨_, rfl, _, _, (N9 _ (List.Mem.head _)).1, rfl, _, rfl⟩, .inl ⟨by simpa using (by assumption : decide (ns = []) = true), rfl⟩⟩, _, _, rfl, fun b o q => F9.keep _ _ (kg _ _ q)⟩
    · (rename News _ _ _ _ => N9)
      (rename Fr _ _ _ _ => F9)
      rename_i l8 h8 q8 a8 h7 M1 t1 k1 hM1 hm1 h6 M2 t2 k2 hM2 hm2 D9 h9 l9
      obtain rfl : M1 = M2 := Int.le_antisymm (hm1 _ hM2) (hm2 _ hM1)
      exact ⟨⟨some (ns.count M1, ns.findIdx fun q => decide (q = M1)), ⟨_, rfl, _, _, _, (N9 _ (List.Mem.head _)).1, rfl, _, rfl⟩, .inr ⟨M1, hM1, hm1, rfl⟩⟩, _, _, rfl, fun b o q => F9.keep _ _ (kg _ _ q)⟩
end

section
theorem resetDecT : True := by w_top off; trivial
local macro_rules | `(tactic| walk_at "call ref") => `(tactic| (k_here; (with_reducible show wpAny _ _ (call (Value.ref 264) _ _) _ _ _); k_dflt (refine' pk_K (written_ok (Frag.In.keeps ?X (Fr.keep ?F1)) (Top.keeps ?T (Fr.keep ?F2)) ?hh ?r ?ht ?hs) ?F ?N ?_; (case X => k_asm); (case T => k_asm); (case F1 => k_asm); (case F2 => k_asm); (case F => k_asm); (case N => k_asm); (case r => ktr_room); (case hh => first | assumption | rfl); (case ht => first | assumption | exact ThAt.keeps (by assumption) (Fr.keep (by k_asm))); (case hs => assumption); k_whole); intro v' h' tk' g' kp' F' N'; obtain ⟨tk9, e9⟩ := g'; subst e9; (try k_sweep)))
local macro_rules | `(tactic| walk_at "binaryOp Add ref ref") => `(tactic| (k_here; k_dflt (refine' addL_K ?F ?N ?a ?b ?z ?_; (case F => k_asm); (case N => k_asm); (case a => exact led_list (by k_asm) (by k_mem)); (case b => exact led_list (by k_asm) (by k_mem)); (case z => (simp only [List.length_cons, List.length_nil]; omega))); intro D' h' F' N' l1; (try k_lt l1); (try k_sweep)))
local macro_rules | `(tactic| walk_at "subscriptTail") => `(tactic| (k_here; (with_reducible show wpAny _ _ (subscriptTail _ _ (Value.ref _) (Value.int 0 _)) _ _ _); k_dflt (refine' menu_at ?N ?m ?h0 ?hhi ?hx ?_ ?s; (case N => k_asm); (case m => k_mem); (case h0 => decide); (case hhi => decide); (case hx => rfl); (case s => with_unfolding_all rfl); k_whole)))

def SplitOk (t : Th) : Prop := match t.head with
  | none => (Txt.splitMax (wr t) (Str.ofString "'") 2).length ≤ 2
  | some p => Txt.splitMax (wr t) (Str.ofString "'") 2 = [p.1, p.2, t.text]
theorem strValues_length (l : List (Str × Tok)) : (strValues l).length = l.length := by simp [strValues]

section
variable {prog : Program} {w : World} {A : Around} {E : Value → Shared → Prop} {s : Shared} {x y a b c : Str} {t u v : Tok} {k : Int} {h₀ : Heap} {L : Addr} {m : Str → Option Value} {news : List (Addr × Obj)} {Q : Value → Shared → Prop}
theorem split_three (hF : Fr h₀ L s.heap m) (hN : News h₀ L s.heap news) (hs : Txt.splitMax x y k = [a, b, c]) (hy : (y.length == 0) = false) (hk : (decide (k < -(2 ^ 63 : Int)) || decide (k ≥ 2 ^ 63)) = false) (hsz : x.length + 2 ≤ sizeLine)
    (h : ∀ D h' tk, Fr h₀ L h' m → News h₀ L h' ((D, listOf [.str a s.toks, .str b (s.toks + 1), .str c (s.toks + 1 + 1)].toArray 0) :: news) → (∀ p ∈ news, p.1 < D) → Q (.ref D) { s with heap := h', toks := tk }) :
    wpAny (model prog w) A (call (.builtin "str.split") [.str x t, .str y u, .int k v]) Q E s := by
  unfold Txt.splitMax at hs
  split at hs
  · cases hs
  rename_i h1
  split at hs
  · cases hs
  rename_i hf
  refine call_meets F.slot_str_split (typeIs_str _ _ _) F.entry_str_split (F.args_str_split_3 _ _ _) (meets_str_split_sep_max x y k t u v hk (eq_false_of_ne_true h1) hy (eq_false_of_ne_true hf) (by omega) (by rw [hs]; exact Nat.le_of_ble_eq_true rfl)) ?_
  show wants Q E _ { s with toks := _, heap := s.heap.push { cls := .type "list", data := .seq (strsFrom s.toks (Builtin.Str.partsBetween x (Builtin.Str.occurrences x y 0 x.length (limitOf x k)) y.length)).toArray } }
  rw [hs]
  exact h _ _ _ (Fr.pushS hF _) (News.push hF hN _) (fun p hp => Heap.lt_size (hN p hp).1)
end
theorem splitOk_some {p : Str × Str} {tx : Str} (h : SplitOk ⟨some p, tx⟩) : Txt.splitMax (wr ⟨some p, tx⟩) (Str.ofString "'") 2 = [p.1, p.2, tx] := h
local macro_rules | `(tactic| walk_at "call builtin:str.split") => `(tactic| (k_here; k_dflt (refine' split_three ?F ?N ?s ?y ?k ?z ?_; (case F => k_asm); (case N => k_asm); (case s => assumption); (case y => decide); (case k => decide); (case z => (simp only [sizeLine_eq]; omega))); intro D' h' tk' F' N' l1; (try k_lt l1)))
/-- the object that decode_rfc2231 gives -/
def BackO (N : Nat) (o : Obj) (t : Th) : Prop := match t.head with
  | none => ∃ t1, o = { cls := .type "tuple", data := .seq #[.none, .none, .str t.text t1] }
  | some p => ∃ (t1 : Tok) (t2 : Nat) (t3 : Tok), o = listOf [.str p.1 t1, .str p.2 t2, .str t.text t3].toArray 0 ∧ N ≤ t2
def BackF (s : Shared) (N : Nat) (h : Heap) (v : Value) (t : Th) : Prop := ∃ a o, v = .ref a ∧ h.get? a = some o ∧ s.heap.get? a = none ∧ BackO N o t
def BackIn (N : Nat) (new : List (Addr × Obj)) (v : Value) (t : Th) : Prop := ∃ a o, v = .ref a ∧ (a, o) ∈ new ∧ BackO N o t
theorem BackIn.mono {N : Nat} {l l' : List (Addr × Obj)} {v : Value} {t : Th} (hs : ∀ p ∈ l, p ∈ l') (h : BackIn N l v t) : BackIn N l' v t := let ⟨a, o, e, m, b⟩ := h; ⟨a, o, e, hs _ m, b⟩
theorem BackIn.at {N : Nat} {new : List (Addr × Obj)} {h : Heap} {v : Value} {t : Th} (x : BackIn N new v t) (hn : ∀ q ∈ new, h.get? q.1 = some q.2) : BackT N h v t := by
  obtain ⟨a, o, e, m, b⟩ := x
  have ho := hn _ m
  refine ⟨a, e, ?_⟩
  unfold BackO at b
  cases hd : t.head with
  | none =>
    rw [hd] at b
    obtain ⟨t1, rfl⟩ := b
    exact ⟨t1, _, ho, rfl, _, rfl⟩
  | some p =>
    rw [hd] at b
    obtain ⟨t1, t2, t3, rfl, hn⟩ := b
    exact ⟨t1, t2, t3, ⟨_, ho, rfl, _, rfl⟩, hn⟩
theorem dec_ok {prog : Program} {w : World} {A : Around} {s : Shared} {loose : List Str} {mean : ExcName → Option Value} {mg mb : Str → Option Value} {E : Value → Shared → Prop} {N : Nat}
    (X : (hd.heap_1 w.params).In s.heap) (T : Top vwP loose mean mg mb s.heap) (hroom : A.depth + 4 < recursionLimit) {t : Th} {tk : Tok} (hl : (wr t).length ≤ 100) (hsp : SplitOk t) (hN : N ≤ s.toks) :
    wpAny (model prog w) A (call (.ref 95) [.str (wr t) tk]) (PK s fun h v => BackF s N h v t) E s := by
  refine wpAny_call ?_
  k_dflt (refine' callP X T.nolimit ?k6 ?k7 ?k8 ?k9 ?kB ?_ ?c5 ?c2 ?c3 ?c4; (case k6 => k_is); (case k7 => k_is); (case k8 => omega); (case k9 => exact BindsTo.of_eq rfl); (case c5 => decide); (case kB => exact locs rfl); (case c2 => exact rfl); (case c3 => exact rfl); (case c4 => exact rfl))
  intro h1 F1
  have N1 : News s.heap s.heap.objs.size h1 [] := News.nil
  obtain ⟨th, tx⟩ := t
  cases th with
  | none =>
    unfold SplitOk at hsp
    k_steps
    (rename List (Str × Tok) => l)
    (rename List.map _ l = _ => hl4)
    (rename News _ _ _ _ => N4)
    (rename Fr _ _ _ _ => F4)
    dsimp only at hsp
    have hn : (strValues l).toArray.size ≤ 2 := by
      have := congrArg List.length hl4
      rw [List.length_map] at this
      rw [List.size_toArray, strValues_length]
      omega
    k_dflt (refine' len_led (ys := (strValues l).toArray) N4 (List.Mem.head _) ?s ?_; (case s => omega))
    generalize (strValues l).toArray.size = sz at hn ⊢
    have hn' : (sz : Int) ≤ 2 := by omega
    k_steps
    (rename News _ _ _ _ => N5)
    (rename Fr _ _ _ _ => F5)
    exact PK.of F5 ⟨_, _, rfl, (N5 _ (List.Mem.head _)).1, (N5 _ (List.Mem.head _)).2.2, _, rfl⟩
  | some p =>
    have hs3 := splitOk_some hsp
    k_steps
    (rename News _ _ _ _ => N5)
    (rename Fr _ _ _ _ => F5)
    exact PK.of F5 ⟨_, _, rfl, (N5 _ (List.Mem.head _)).1, (N5 _ (List.Mem.head _)).2.2, _, _, _, rfl, by (try dsimp only); omega⟩
end
end
end
end

section
theorem resetFin : True := by w_top off; trivial

noncomputable def okTitle (g b : Int) : Bool :=
  decide ((tl g b).length ≤ 20) && (hits code105 (tl g b) == some false) && (hits code105 (Txt.lower (tl g b)) == some false) && decide (Txt.lower (tl g b) = small g) && (hits code105 (Txt.lower (tl g b ++ Str.ofString "\t")) == some true)
theorem okTitles : ∀ g : Fin 3, ∀ b : Fin 2, okTitle (g.val : Int) (b.val : Int) = true := by decide +kernel
def wished : List (Option Str) := [some (Str.ofString "en"), some (Str.ofString "de"), some (Str.ofString ""), none]
noncomputable def okThing (t : Th) : Bool :=
  decide ((wr t).length ≤ 100) && decide (t.text.length ≤ 20) && (match t.head with | none => true | some p => decide (p.1.length ≤ 20) && decide (p.2.length ≤ 20)) && (hits code110 (wr t) == some false) && (hits code110 (wr t ++ Str.ofString "\n") == some true) &&
  (match t.head with
    | none => decide ((Txt.splitMax (wr t) (Str.ofString "'") 2).length ≤ 2)
    | some p => decide (Txt.splitMax (wr t) (Str.ofString "'") 2 = [p.1, p.2, t.text])) && decide (tongueOf t ∈ wished)
theorem okThing0 : ∀ i6 : Fin 6, ∀ i2 : Fin 2, ∀ i3 : Fin 3, okThing (thOf 0 (i6.val : Int) (i2.val : Int) (i3.val : Int)) = true := by decide +kernel
theorem okThing1 : ∀ i6 : Fin 6, ∀ i2 : Fin 2, ∀ i3 : Fin 3, okThing (thOf 1 (i6.val : Int) (i2.val : Int) (i3.val : Int)) = true := by decide +kernel
theorem okThing2 : ∀ i6 : Fin 6, ∀ i2 : Fin 2, ∀ i3 : Fin 3, okThing (thOf 2 (i6.val : Int) (i2.val : Int) (i3.val : Int)) = true := by decide +kernel
theorem okThing3 : ∀ i6 : Fin 6, okThing ⟨none, txtM (i6.val : Int)⟩ = true := by decide +kernel
theorem okThings : ∀ i4 : Fin 4, ∀ i6 : Fin 6, ∀ i2 : Fin 2, ∀ i3 : Fin 3, okThing (thOf (i4.val : Int) (i6.val : Int) (i2.val : Int) (i3.val : Int)) = true := fun i4 i6 i2 i3 =>
  match i4 with
  | ⟨0, _⟩ => okThing0 i6 i2 i3
  | ⟨1, _⟩ => okThing1 i6 i2 i3
  | ⟨2, _⟩ => okThing2 i6 i2 i3
  | ⟨3, _⟩ => okThing3 i6
end

section
theorem resetDoAll : True := by w_top off; trivial

def doR (k : Int) (rs : List (Str × Str)) (nm wd : Str) : List (Str × Str) :=
  if k = 0 then (rs.filter fun q => decide (Txt.lower q.1 ≠ Txt.lower nm)) ++ [(nm, wd)] else if k = 1 ∨ k = 7 then rs ++ [(nm, wd)] else if k = 2 then doR2 rs nm wd else
  if k = 3 ∨ k = 4 ∨ k = 5 then (rs.filter fun q => decide (Txt.lower q.1 ≠ Txt.lower nm)) else if k = 6 then rs else rs.drop 1
def doV (k : Int) (rs : List (Str × Str)) (nm wd : Str) (v : Value) : Prop :=
  if k = 2 then ∃ t, v = .str (doV2 rs nm wd) t else if k = 4 ∨ k = 6 then ∃ t, v = .str (Str.ofString "refused") t else if k = 5 then ∃ t, v = .str (Str.ofString "no text") t else if k = 7 then v = .bool true else v = .none
theorem TurnQ.to {s : Shared} {r L : Addr} {rs₁ rs₂ : List (Str × Str)} {P₁ P₂ : Value → Prop} {v : Value} {s' : Shared} (h : TurnQ s r L rs₁ P₁ v s') (hr : rs₁ = rs₂) (hp : ∀ v, P₁ v → P₂ v) : TurnQ s r L rs₂ P₂ v s' := by
  subst hr
  exact ⟨hp _ h.1, h.2⟩
theorem do_ok {w : World} {loose : List Str} {mean : ExcName → Option Value} {mg mb : Str → Option Value}
  {dp un : Nat} {gd : Option (List Code)} {cn : Str} {cs : Scope} {a : Addr} {ccd : Value} {cl : List (Str × Addr)} {A₀ : Around} {base h₀ : Heap} {L : Addr} {m : Str → Option Value} {s : Shared} {E : Value → Shared → Prop}
    (B : Below A₀ base [] h₀) (F : Fr h₀ L s.heap m) (X : (hd.heap_1 w.params).In h₀) (T : Top vwP loose mean mg mb h₀) (hk : cs.kind = .function)
    {r x dx : Addr} {vs : List Value} {n : Nat} {hsh : Int} {ktk : Tok} {t1 t2 tk0 : Tok} {rs : List (Str × Str)} {nm wd : Str}
    (N : News h₀ L s.heap [(r, listOf vs.toArray n)]) (hx : s.heap.get? x = some (instObj 239 dx)) (hdx : s.heap.get? dx = some (dictOf [⟨hsh, .str (Str.ofString "_headers") ktk, .ref r⟩] 1))
    (hrs : Rows s.heap vs rs) (hvs : vs.length ≤ 100) (hnm : nm.length ≤ 20) (hwd : wd.length ≤ 100)
    (XB : (hd.heap_1 w.params).In base) (TB : Top vwP loose mean mg mb base) (hd1 : dp + 40 < recursionLimit) (hu : un + 200 < cLine) (h1 : hits code105 nm = some false) (h2 : hits code105 (Txt.lower nm) = some false) (h3 : hits code110 wd = some false)
    (h4 : hits code110 (wd ++ Str.ofString "\n") = some true) (h6 : hits code105 (Txt.lower (nm ++ Str.ofString "\t")) = some true) {k : Int} (hk0 : 0 ≤ k) (hk9 : k < 9) :
      wpAny (model PySem.Challenge.rw_wf0067_01.row.prog w) (ktrTop dp un gd cn cs L a ccd cl []) (call (.ref 271) [.ref x, .ref r, .int k tk0, .str nm t1, .str wd t2]) (TurnQ s r L (doR k rs nm wd) (doV k rs nm wd)) E s := by
  have hc : k = 0 ∨ k = 1 ∨ k = 2 ∨ k = 3 ∨ k = 4 ∨ k = 5 ∨ k = 6 ∨ k = 7 ∨ k = 8 := by omega
  rcases hc with rfl | rfl | rfl | rfl | rfl | rfl | rfl | rfl | rfl
  · exact wpAny_mono (do_0 B F X T hk N hx hdx hrs hvs hnm hwd hd1 hu h1 h2 h3) (fun _ _ z => z.to rfl fun _ q => q) fun _ _ z => z
  · exact wpAny_mono (do_1 B F X T hk N hx hdx hrs hvs hnm hwd hd1 hu h1 h2 h3) (fun _ _ z => z.to rfl fun _ q => q) fun _ _ z => z
  · exact wpAny_mono (do_2 B F X T hk N hx hdx hrs hvs hnm hwd hd1 hu h1 h2 h3) (fun _ _ z => z.to rfl fun _ q => q) fun _ _ z => z
  · exact wpAny_mono (do_3 B F X T hk N hx hdx hrs hvs hnm hwd hd1 hu h1 h2) (fun _ _ z => z.to rfl fun _ q => q) fun _ _ z => z
  · exact wpAny_mono (do_4 B F X T hk N hx hdx hrs hvs hnm hwd XB TB hd1 hu h1 h2 h4) (fun _ _ z => z.to rfl fun _ q => q) fun _ _ z => z
  · exact wpAny_mono (do_5 B F X T hk N hx hdx hrs hvs hnm hwd XB TB hd1 hu h1 h2) (fun _ _ z => z.to rfl fun _ q => q) fun _ _ z => z
  · exact wpAny_mono (do_6 B F X T hk N hx hdx hrs hvs hnm hwd XB TB hd1 hu h6) (fun _ _ z => z.to rfl fun _ q => q) fun _ _ z => z
  · exact wpAny_mono (do_7 B F X T hk N hx hdx hrs hvs hnm hwd hd1 hu) (fun _ _ z => z.to rfl fun _ q => q) fun _ _ z => z
  · exact wpAny_mono (do_8 B F X T hk N hx hdx hrs hvs hnm hwd hd1 hu) (fun _ _ z => z.to rfl fun _ q => q) fun _ _ z => z
end

section
theorem resetLaw0 : True := by w_top off; trivial

theorem y54_lo {y : Int} (h : 0 ≤ y) : 0 ≤ Int.fdiv y 54 := Int.fdiv_nonneg h (by decide)
theorem y54_hi {y : Int} (h : 0 ≤ y) (h1 : y < 1000000000) : Int.fdiv y 54 < 1000000000 := by
  rw [Int.fdiv_eq_ediv_of_nonneg _ (by decide)]
  omega
theorem pairedI : ∀ {vs : List Value} {ns : List Int}, IntsAre vs ns → PySem.Paired IV vs ns
  | _, _, .nil => .nil
  | _, _, .cons k t r => .cons ⟨t, rfl⟩ (pairedI r)
def Ok (e : Ent) : Prop := (∃ b : Int, (b = 0 ∨ b = 1) ∧ e.nm = tl e.g b) ∧ 0 ≤ e.g ∧ e.g < 3 ∧ okThing e.th = true
def row (e : Ent) : Str × Str := (e.nm, wr e.th)
def LInv (hsh : Int) (ktk : Tok) (x d r cp cg ax sc : Addr) (op : Obj) (us : List Value) (i : Nat) (m : Str → Option Value) (led : List (Addr × Obj)) (h : Heap) : Prop :=
  ∃ (vs : List Value) (n : Nat) (ks : List Ent) (kp : Addr) (kvs : List Value) (og : Obj) (gv : Option Value), led = [(x, instObj 239 d), (d, dictOf [⟨hsh, .str (Str.ofString "_headers") ktk, .ref r⟩] 1), (r, listOf vs.toArray n), (cp, op), (cg, og)] ∧
    og.data = .cell gv ∧ m (Str.ofString "script") = some (.ref sc) ∧ m (Str.ofString "rows") = some (.ref r) ∧ m (Str.ofString "table") = some (.ref x) ∧ m (Str.ofString "kept") = some (.ref kp) ∧ h.IsList ax us.toArray ∧ Rows h vs (ks.map row) ∧
    h.IsList kp kvs.toArray ∧ Ents h kvs ks ∧ kp ≠ r ∧ ks.length ≤ i ∧ ∀ e ∈ ks, Ok e
/-- tuples stand, and lists but the one at r -/
def SeqKeep (r : Addr) (h h' : Heap) : Prop := ∀ b o items n, h.get? b = some o → o.data = .seq items n → (o.cls = .type "tuple" ∨ o.cls = .type "list" ∧ b ≠ r) → h'.get? b = some o
theorem SeqKeep.trans {r : Addr} {h h' h'' : Heap} (a : SeqKeep r h h') (b : SeqKeep r h' h'') : SeqKeep r h h'' := fun c o items n e d k => b c o items n (a c o items n e d k) d k
theorem SeqKeep.of {r : Addr} {h h' : Heap} (k : ∀ b o, h.get? b = some o → h'.get? b = some o) : SeqKeep r h h' := fun b o _ _ e _ _ => k b o e
theorem IsTup.tk {r : Addr} {h h' : Heap} {a : Addr} {items : Array Value} (x : IsTup h a items) (k : SeqKeep r h h') : IsTup h' a items := by
  obtain ⟨o, ho, hc, n, hd⟩ := x
  exact ⟨o, k _ _ _ _ ho hd (.inl hc), hc, n, hd⟩
theorem IsList.tk {r : Addr} {h h' : Heap} {a : Addr} {items : Array Value} (x : h.IsList a items) (k : SeqKeep r h h') (hr : a ≠ r) : h'.IsList a items := by
  obtain ⟨o, ho, hc, n, hd⟩ := x
  exact ⟨o, k _ _ _ _ ho hd (.inr ⟨hc, hr⟩), hc, n, hd⟩
theorem Rows.tk {r : Addr} {h h' : Heap} {vs : List Value} {rs : List (Str × Str)} (x : Rows h vs rs) (k : SeqKeep r h h') : Rows h' vs rs :=
  PySem.Paired.mono (fun _ _ y => by obtain ⟨a, t1, t2, e, i, b⟩ := y; exact ⟨a, t1, t2, e, IsTup.tk i k, b⟩) x
theorem ThAt.tk {r : Addr} {h h' : Heap} {v : Value} {t : Th} (x : ThAt h v t) (k : SeqKeep r h h') : ThAt h' v t := by
  obtain ⟨a, e, x⟩ := x
  refine ⟨a, e, ?_⟩
  cases hd : t.head with
  | none =>
    rw [hd] at x
    obtain ⟨t1, i⟩ := x
    exact ⟨t1, IsTup.tk i k⟩
  | some p =>
    rw [hd] at x
    obtain ⟨t1, t2, t3, i⟩ := x
    exact ⟨t1, t2, t3, IsTup.tk i k⟩
theorem EntAt.tk {r : Addr} {h h' : Heap} {v : Value} {e : Ent} (x : EntAt h v e) (k : SeqKeep r h h') : EntAt h' v e := by
  obtain ⟨a, tg, tn, tv, q, i, t, z⟩ := x; exact ⟨a, tg, tn, tv, q, IsTup.tk i k, ThAt.tk t k, z⟩
theorem Ents.tk {r : Addr} {h h' : Heap} {vs : List Value} {ks : List Ent} (x : Ents h vs ks) (k : SeqKeep r h h') : Ents h' vs ks :=
  PySem.Paired.mono (fun _ _ y => EntAt.tk y k) x
/-- an object of the ledger that is no tuple and no list, but the list at r -/
def Aside (r : Addr) (p : Addr × Obj) : Prop := (p.1 = r ∧ p.2.cls = .type "list") ∨ (p.2.cls ≠ .type "tuple" ∧ p.2.cls ≠ .type "list") ∨ ∃ v, p.2.data = .cell v
theorem rebaseS {base h : Heap} {L r : Addr} {m : Str → Option Value} {led : List (Addr × Obj)} (F : Fr base L h m) (N : News base L h led) (hl : ∀ p ∈ led, Aside r p) :
    ∃ tl, News base L h (led ++ tl) ∧ (∀ p ∈ led, ∀ q ∈ tl, q.1 ≠ p.1) ∧ ∀ h', (∀ b o, base.get? b = some o → h'.get? b = some o) → News base L h' tl → SeqKeep r h h' := by
  obtain ⟨tl, Nt, hne, back⟩ := rebase F N
  refine ⟨tl, Nt, hne, fun h' kb nt b o items n e hd hc => back h' kb nt b o e ?_ fun p hp q => ?_⟩
  · rintro rfl
    obtain ⟨oL, es, ep, hL, hLd, _⟩ := F.ns
    rw [e] at hL
    cases hL
    rw [hd] at hLd
    cases hLd
  · have hN := (N p hp).1
    rw [← q, e] at hN
    cases hN
    rcases hl p hp with ⟨h1, h2⟩ | ⟨h1, h2⟩ | ⟨v, h1⟩
    · rcases hc with hc | ⟨_, hc⟩
      · rw [h2] at hc; exact absurd hc (by decide)
      · exact hc (q.trans h1)
    · rcases hc with hc | ⟨hc, _⟩
      · exact h1 hc
      · exact h2 hc
    · rw [hd] at h1; cases h1
theorem led6 {r I x d cp cg : Addr} {oI op og : Obj} {es : List DictEntry} {k : Nat} {ys : Array Value} {n : Nat} {gp gg : Option Value} (hI : oI.cls = .type "list_iterator") (hp : op.data = .cell gp) (hg : og.data = .cell gg) :
    ∀ p ∈ [(I, oI), (x, instObj 239 d), (d, dictOf es k), (r, listOf ys n), (cp, op), (cg, og)], Aside r p := by
  intro p h
  simp only [List.mem_cons, List.not_mem_nil, or_false] at h
  rcases h with rfl | rfl | rfl | rfl | rfl | rfl
  · exact .inr (.inl ⟨by rw [hI]; decide, by rw [hI]; decide⟩)
  · exact .inr (.inl ⟨by show Value.ref 239 ≠ _; decide, by show Value.ref 239 ≠ _; decide⟩)
  · exact .inr (.inl ⟨by show Value.type "dict" ≠ _; decide, by show Value.type "dict" ≠ _; decide⟩)
  · exact .inl ⟨rfl, rfl⟩
  · exact .inr (.inr ⟨_, hp⟩)
  · exact .inr (.inr ⟨_, hg⟩)
theorem LInv.st {hsh : Int} {ktk : Tok} {x d r cp cg ax sc : Addr} {op : Obj} {us : List Value} {i : Nat} {m : Str → Option Value} {led : List (Addr × Obj)} {h h' : Heap} (q : LInv hsh ktk x d r cp cg ax sc op us i m led h)
    (k : ∀ b o, h.get? b = some o → o.cls ≠ .type "list_iterator" → h'.get? b = some o) : LInv hsh ktk x d r cp cg ax sc op us i m led h' := by
  obtain ⟨vs, n, ks, kp, kvs, og, gv, a1, a2, a3, a4, a5, a6, ⟨o1, b1, c1, b2⟩, a8, ⟨o2, b3, c2, b4⟩, a10, a11⟩ := q
  have kt : SeqKeep r h h' := fun b o _ _ e _ c => k b o e (by rcases c with c | ⟨c, _⟩ <;> (rw [c]; decide))
  exact ⟨vs, n, ks, kp, kvs, og, gv, a1, a2, a3, a4, a5, a6, ⟨o1, k _ _ b1 (by rw [c1]; decide), c1, b2⟩, Rows.tk a8 kt, ⟨o2, k _ _ b3 (by rw [c2]; decide), c2, b4⟩, Ents.tk a10 kt, a11⟩
end

section
theorem resetPl : True := by w_top off; trivial

theorem okThing_of (z : Int) : okThing (thingOf z) = true := by
  have h1 := fm_lo z (b := 4) (by decide); have h2 := fm_hi z (b := 4) (by decide)
  have h3 := fm_lo (Int.fdiv z 4) (b := 6) (by decide); have h4 := fm_hi (Int.fdiv z 4) (b := 6) (by decide)
  have h5 := fm_lo (Int.fdiv z 24) (b := 2) (by decide); have h6 := fm_hi (Int.fdiv z 24) (b := 2) (by decide)
  have h7 := fm_lo (Int.fdiv z 48) (b := 3) (by decide); have h8 := fm_hi (Int.fdiv z 48) (b := 3) (by decide)
  have := okThings ⟨(Int.fmod z 4).toNat, by omega⟩ ⟨(Int.fmod (Int.fdiv z 4) 6).toNat, by omega⟩ ⟨(Int.fmod (Int.fdiv z 24) 2).toNat, by omega⟩ ⟨(Int.fmod (Int.fdiv z 48) 3).toNat, by omega⟩
  unfold thingOf
  simpa only [Int.toNat_of_nonneg h1, Int.toNat_of_nonneg h3, Int.toNat_of_nonneg h5, Int.toNat_of_nonneg h7] using this
structure OkTh (t : Th) : Prop where
  len : (wr t).length ≤ 100
  short : t.short
  h3 : hits code110 (wr t) = some false
  h4 : hits code110 (wr t ++ Str.ofString "\n") = some true
  split : SplitOk t
  mem : tongueOf t ∈ wished
theorem OkTh.of {t : Th} (h : okThing t = true) : OkTh t := by
  unfold okThing at h
  simp only [Bool.and_eq_true, decide_eq_true_eq, beq_iff_eq] at h
  obtain ⟨⟨⟨⟨⟨⟨a, b⟩, c⟩, d⟩, e⟩, f⟩, g⟩ := h
  refine ⟨a, ⟨b, fun p hp => ?_⟩, d, e, ?_, g⟩
  · rw [hp] at c
    simpa using c
  · unfold SplitOk
    cases hq : t.head with
    | none => rw [hq] at f; simpa using f
    | some p => rw [hq] at f; simpa using f
structure OkTi (g b : Int) : Prop where
  len : (tl g b).length ≤ 20
  h1 : hits code105 (tl g b) = some false
  h2 : hits code105 (Txt.lower (tl g b)) = some false
  low : Txt.lower (tl g b) = small g
  h6 : hits code105 (Txt.lower (tl g b ++ Str.ofString "\t")) = some true
theorem OkTi.of {g b : Int} (h0 : 0 ≤ g) (h3 : g < 3) (hb0 : 0 ≤ b) (hb2 : b < 2) : OkTi g b := by
  have h := okTitles ⟨g.toNat, by omega⟩ ⟨b.toNat, by omega⟩
  simp only [Int.toNat_of_nonneg h0, Int.toNat_of_nonneg hb0] at h
  unfold okTitle at h
  simp only [Bool.and_eq_true, decide_eq_true_eq, beq_iff_eq] at h
  obtain ⟨⟨⟨⟨a, b⟩, c⟩, d⟩, e⟩ := h
  exact ⟨a, b, c, d, e⟩
theorem small_inj {g k : Int} (h0 : 0 ≤ g) (h3 : g < 3) (k0 : 0 ≤ k) (k3 : k < 3) : small g = small k ↔ g = k := by
  constructor
  · intro h
    have hg : g = 0 ∨ g = 1 ∨ g = 2 := by omega
    have hk : k = 0 ∨ k = 1 ∨ k = 2 := by omega
    rcases hg with rfl | rfl | rfl <;> rcases hk with rfl | rfl | rfl <;> first | rfl | (exact absurd h (by decide +kernel))
  · rintro rfl; rfl
theorem Ok.low {e : Ent} (h : Ok e) : Txt.lower e.nm = small e.g := by
  obtain ⟨⟨b, hb, hn⟩, h0, h3, _⟩ := h
  rw [hn]
  exact (OkTi.of h0 h3 (by omega) (by omega)).low
theorem row_low {ks : List Ent} (hok : ∀ e ∈ ks, Ok e) {g : Int} {low : Str} (h0 : 0 ≤ g) (h3 : g < 3) (hl : low = small g) {e : Ent} (he : e ∈ ks) : (Txt.lower (row e).1 = low) ↔ e.g = g := by
  rw [hl]
  show Txt.lower e.nm = small g ↔ _
  rw [(hok e he).low]
  exact small_inj (hok e he).2.1 (hok e he).2.2.1 h0 h3
theorem filter_row {ks : List Ent} (hok : ∀ e ∈ ks, Ok e) {g : Int} {low : Str} (h0 : 0 ≤ g) (h3 : g < 3) (hl : low = small g) : (ks.map row).filter (fun q => decide (Txt.lower q.1 = low)) = (ks.filter fun e => decide (e.g = g)).map row := by
  rw [List.filter_map]
  congr 1
  exact List.filter_congr fun e he => by simp only [Function.comp]; exact decide_eq_decide.mpr (row_low hok h0 h3 hl he)
theorem filter_rowN {ks : List Ent} (hok : ∀ e ∈ ks, Ok e) {g : Int} {low : Str} (h0 : 0 ≤ g) (h3 : g < 3) (hl : low = small g) : (ks.map row).filter (fun q => decide (Txt.lower q.1 ≠ low)) = (ks.filter fun e => decide (e.g ≠ g)).map row := by
  rw [List.filter_map]
  congr 1
  exact List.filter_congr fun e he => by simp only [Function.comp]; exact decide_eq_decide.mpr (not_congr (row_low hok h0 h3 hl he))
theorem find_row {ks : List Ent} (hok : ∀ e ∈ ks, Ok e) {g : Int} {low : Str} (h0 : 0 ≤ g) (h3 : g < 3) (hl : low = small g) : (ks.map row).find? (fun q => decide (Txt.lower q.1 = low)) = ((ks.filter fun e => decide (e.g = g)).map row).head? := by
  rw [← List.head?_filter, filter_row hok h0 h3 hl]
theorem doR_row {ks : List Ent} {e : Ent} (hok : ∀ e ∈ ks, Ok e) (he : Ok e) {k : Int} (h0 : 0 ≤ k) (h9 : k < 9) : doR k (ks.map row) e.nm (wr e.th) = (dueK k ks e).map row := by
  have hf := filter_rowN hok he.2.1 he.2.2.1 he.low
  have hc : k = 0 ∨ k = 1 ∨ k = 2 ∨ k = 3 ∨ k = 4 ∨ k = 5 ∨ k = 6 ∨ k = 7 ∨ k = 8 := by omega
  rcases hc with rfl | rfl | rfl | rfl | rfl | rfl | rfl | rfl | rfl
  · show ((ks.map row).filter fun q => decide (Txt.lower q.1 ≠ Txt.lower e.nm)) ++ [row e] = (ks.filter (fun q => decide (q.g ≠ e.g)) ++ [e]).map row
    rw [hf, List.map_append]; rfl
  · show ks.map row ++ [row e] = (ks ++ [e]).map row
    rw [List.map_append]; rfl
  · show doR2 (ks.map row) e.nm (wr e.th) = (if ks.filter (fun q => decide (q.g = e.g)) = [] then ks ++ [e] else ks).map row
    unfold doR2
    rw [find_row hok he.2.1 he.2.2.1 he.low]
    cases hq : ks.filter (fun q => decide (q.g = e.g)) with
    | nil => rw [if_pos rfl, List.map_append]; rfl
    | cons a l => rw [if_neg (fun x => nomatch x)]; rfl
  · exact hf
  · exact hf
  · exact hf
  · rfl
  · show ks.map row ++ [row e] = (ks ++ [e]).map row
    rw [List.map_append]; rfl
  · show (ks.map row).drop 1 = (ks.drop 1).map row
    rw [List.map_drop]
/-- two values that are equal in Python: none, a bool, a text -/
def Twin (v v' : Value) : Prop := ∀ (A : Around) (s : Shared), PySem.SeqAt.RcNeAt A s v v' false ∧ PySem.SeqAt.EqAt A s v v' true
theorem Twin.none : Twin .none .none := fun _ _ => ⟨PySem.SeqAt.RcNeAt.none_none, PySem.SeqAt.EqAt.same _⟩
theorem Twin.bool (b : Bool) : Twin (.bool b) (.bool b) := fun A s => ⟨by simpa using PySem.SeqAt.RcNeAt.bool_bool (A := A) (s := s) b b, PySem.SeqAt.EqAt.same _⟩
theorem Twin.true' : Twin (.bool true) (.bool true) := .bool true
theorem Twin.str (x : Str) (t u : Tok) : Twin (.str x t) (.str x u) := fun A s => ⟨by simpa using PySem.SeqAt.RcNeAt.str_str (A := A) (s := s) x t x u, by simpa using PySem.SeqAt.EqAt.str_str (A := A) (s := s) x t x u⟩
theorem Twin.int (x : Int) (t u : Tok) : Twin (.int x t) (.int x u) := fun A s => ⟨by simpa using PySem.SeqAt.RcNeAt.int_int (A := A) (s := s) x t x u, by simpa using PySem.SeqAt.EqAt.int_int (A := A) (s := s) x t x u⟩
theorem Twin.ne {prog : Program} {w : World} {A : Around} {E : Value → Shared → Prop} {s : Shared} {v v' : Value} {Q : Value → Shared → Prop} (h : Twin v v') (hq : Q (.bool false) s) : wpAny (model prog w) A (compareOp .NotEq v v') Q E s :=
  cmp_ofNotEq ((h A s).1 prog w E Q hq)
theorem do_due {ks : List Ent} {e : Ent} (hok : ∀ e ∈ ks, Ok e) (he : Ok e) {k : Int} (h0 : 0 ≤ k) (h9 : k < 9) {v v' : Value} (h : doV k (ks.map row) e.nm (wr e.th) v) (h' : dueV k ks e v') : Twin v v' := by
  have hc : k = 0 ∨ k = 1 ∨ k = 2 ∨ k = 3 ∨ k = 4 ∨ k = 5 ∨ k = 6 ∨ k = 7 ∨ k = 8 := by omega
  rcases hc with rfl | rfl | rfl | rfl | rfl | rfl | rfl | rfl | rfl
  · cases (show v = .none from h); cases (show v' = .none from h'); exact .none
  · cases (show v = .none from h); cases (show v' = .none from h'); exact .none
  · obtain ⟨t, rfl⟩ := (show ∃ t, v = .str (doV2 (ks.map row) e.nm (wr e.th)) t from h)
    have hv : doV2 (ks.map row) e.nm (wr e.th) = match ks.find? (fun q => decide (q.g = e.g)) with | none => wr e.th | some q => wr q.th := by
      unfold doV2
      rw [find_row hok he.2.1 he.2.2.1 he.low, ← List.head?_filter]
      cases hq : ks.filter (fun q => decide (q.g = e.g)) with
      | nil => rfl
      | cons a l => rfl
    rw [hv]
    replace h' := (show match ks.find? (fun q => decide (q.g = e.g)) with | none => ∃ t, v' = .str (wr e.th) t | some q => ∃ t, v' = .str (wr q.th) t from h')
    cases hq : ks.find? (fun q => decide (q.g = e.g)) with
    | none => rw [hq] at h'; obtain ⟨u, rfl⟩ := h'; exact .str _ _ _
    | some q => rw [hq] at h'; obtain ⟨u, rfl⟩ := h'; exact .str _ _ _
  · cases (show v = .none from h); cases (show v' = .none from h'); exact .none
  · obtain ⟨t, rfl⟩ := (show ∃ t, v = .str (Str.ofString "refused") t from h); obtain ⟨u, rfl⟩ := (show ∃ t, v' = .str (Str.ofString "refused") t from h'); exact .str _ _ _
  · obtain ⟨t, rfl⟩ := (show ∃ t, v = .str (Str.ofString "no text") t from h); obtain ⟨u, rfl⟩ := (show ∃ t, v' = .str (Str.ofString "no text") t from h'); exact .str _ _ _
  · obtain ⟨t, rfl⟩ := (show ∃ t, v = .str (Str.ofString "refused") t from h); obtain ⟨u, rfl⟩ := (show ∃ t, v' = .str (Str.ofString "refused") t from h'); exact .str _ _ _
  · cases (show v = .bool true from h); cases (show v' = .bool true from h'); exact .true'
  · cases (show v = .none from h); cases (show v' = .none from h'); exact .none
theorem dueK_sub {ks : List Ent} {e : Ent} {k : Int} (h0 : 0 ≤ k) (h9 : k < 9) : (dueK k ks e).length ≤ ks.length + 1 ∧ ∀ q ∈ dueK k ks e, q ∈ ks ∨ q = e := by
  have hc : k = 0 ∨ k = 1 ∨ k = 2 ∨ k = 3 ∨ k = 4 ∨ k = 5 ∨ k = 6 ∨ k = 7 ∨ k = 8 := by omega
  have hl : (ks.filter fun q => decide (q.g ≠ e.g)).length ≤ ks.length := List.length_filter_le _ _
  have hf : ∀ q ∈ ks.filter (fun q => decide (q.g ≠ e.g)), q ∈ ks ∨ q = e := fun q hq => .inl (List.mem_filter.mp hq).1
  have ha : ∀ l : List Ent, (∀ q ∈ l, q ∈ ks ∨ q = e) → ∀ q ∈ l ++ [e], q ∈ ks ∨ q = e := fun l h q hq => by
    rcases List.mem_append.mp hq with hq | hq
    · exact h q hq
    · exact .inr (List.mem_singleton.mp hq)
  have hs : ∀ q ∈ ks, q ∈ ks ∨ q = e := fun _ h => .inl h
  rcases hc with rfl | rfl | rfl | rfl | rfl | rfl | rfl | rfl | rfl
  · exact ⟨by show (ks.filter (fun q => decide (q.g ≠ e.g)) ++ [e]).length ≤ _; rw [List.length_append]; simpa using hl, ha _ hf⟩
  · exact ⟨by show (ks ++ [e]).length ≤ _; rw [List.length_append]; exact Nat.le_refl _, ha _ hs⟩
  · show (if ks.filter (fun q => decide (q.g = e.g)) = [] then ks ++ [e] else ks).length ≤ _ ∧ ∀ q ∈ (if ks.filter (fun q => decide (q.g = e.g)) = [] then ks ++ [e] else ks), _
    split
    · exact ⟨by rw [List.length_append]; exact Nat.le_refl _, ha _ hs⟩
    · exact ⟨Nat.le_succ _, hs⟩
  · exact ⟨Nat.le_succ_of_le hl, hf⟩
  · exact ⟨Nat.le_succ_of_le hl, hf⟩
  · exact ⟨Nat.le_succ_of_le hl, hf⟩
  · exact ⟨Nat.le_succ _, hs⟩
  · exact ⟨by show (ks ++ [e]).length ≤ _; rw [List.length_append]; exact Nat.le_refl _, ha _ hs⟩
  · exact ⟨by show (ks.drop 1).length ≤ _; rw [List.length_drop]; omega, fun q hq => .inl (List.mem_of_mem_drop hq)⟩
theorem okE (y z : Int) : Ok ⟨Int.fmod (Int.fdiv y 9) 3, tl (Int.fmod (Int.fdiv y 9) 3) (Int.fmod (Int.fdiv y 27) 2), thingOf z⟩ := by
  have h1 := fm_lo (Int.fdiv y 27) (b := 2) (by decide)
  have h2 := fm_hi (Int.fdiv y 27) (b := 2) (by decide)
  exact ⟨⟨_, by omega, rfl⟩, fm_lo _ (by decide), fm_hi _ (by decide), okThing_of z⟩
theorem okTi (y : Int) : OkTi (Int.fmod (Int.fdiv y 9) 3) (Int.fmod (Int.fdiv y 27) 2) := .of (fm_lo _ (by decide)) (fm_hi _ (by decide)) (fm_lo _ (by decide)) (fm_hi _ (by decide))
theorem okTh (z : Int) : OkTh (thingOf z) := .of (okThing_of z)
section
variable {prog : Program} {w : World} {A : Around} {E : Value → Shared → Prop} {s : Shared} {a b : Addr} {v : Value} {r : List Value} {Q : Value → Shared → Prop}
theorem ne_nil (hl : s.heap.IsList a ([] : List Value).toArray) (hb : s.heap.IsList b ([] : List Value).toArray) (hu : A.units < cLine) (h : Q (.bool false) s) : wpAny (model prog w) A (compareOp .NotEq (.ref a) (.ref b)) Q E s :=
  cmp_ofNotEq (PySem.SeqAt.RcNeAt.lists (e := fun _ => true) hl hb rfl hu (fun j h1 => absurd h1 (Nat.not_lt_zero _)) prog w E Q h)
theorem ne_cons (hl : s.heap.IsList a (v :: r).toArray) (hb : s.heap.IsList b ([] : List Value).toArray) (hu : A.units < cLine) (h : Q (.bool true) s) : wpAny (model prog w) A (compareOp .NotEq (.ref a) (.ref b)) Q E s :=
  cmp_ofNotEq (PySem.SeqAt.RcNeAt.lists_lengths hl hb (by simp) hu prog w E Q h)
end
/-- the second half of the law is walked -/
def Phase2 (_N : Nat) : Prop := True
theorem gen_toks {M : Model} {A : Around} {α : Type} {t : Sem α} {Q : α → Shared → Prop} {E : Value → Shared → Prop} {s : Shared} {N : Nat} (_ : Phase2 N) (hX : N ≤ s.toks) (h : ∀ k, N ≤ k → wpAny M A t Q E { s with toks := k }) : wpAny M A t Q E s := h s.toks hX
section
variable {M : Model} {A : Around} {E : Value → Shared → Prop} {s : Shared} {h₀ : Heap} {L : Addr} {m : Str → Option Value} {news : List (Addr × Obj)}
/-- pk_K, the tokens' bound told -/
theorem pk_KT {N : Nat} {t : Sem Value} {P : Heap → Value → Prop} {Q : Value → Shared → Prop} (_ : Phase2 N) (hN : N ≤ s.toks) (h : wpAny M A t (PK s P) E s) (F : Fr h₀ L s.heap m) (Nw : News h₀ L s.heap news)
    (hq : ∀ v h' tk', N ≤ tk' → P h' v → (∀ b o, s.heap.get? b = some o → h'.get? b = some o) → Fr h₀ L h' m → News h₀ L h' news → Q v { s with heap := h', toks := tk' }) : wpAny M A t Q E s :=
  wpAny_with_toks hN (wpAny_mono h (fun v s' z hn => by
    obtain ⟨p, h', tk, rfl, k⟩ := z
    exact hq v h' tk hn p k (F.keeps k) (News.keepsK Nw k)) fun _ _ e _ => e)
end
theorem led5 {r x d cp cg : Addr} {op og : Obj} {es : List DictEntry} {k : Nat} {ys : Array Value} {n : Nat} {gp gg : Option Value} (hp : op.data = .cell gp) (hg : og.data = .cell gg) :
    ∀ p ∈ [(x, instObj 239 d), (d, dictOf es k), (r, listOf ys n), (cp, op), (cg, og)], Aside r p := fun p h =>
  led6 (I := x) (oI := { cls := .type "list_iterator", data := .plain }) rfl hp hg p (List.mem_cons_of_mem _ h)
theorem tup2_eq {A : Around} {s : Shared} {a b : Addr} {x y : Str} {t1 t2 u1 u2 : Tok} (ha : IsTup s.heap a #[.str x t1, .str y t2]) (hb : IsTup s.heap b #[.str x u1, .str y u2]) (hu : A.units < cLine) : PySem.SeqAt.EqAt A s (.ref a) (.ref b) true := by
  by_cases e : a = b
  · subst e; exact PySem.SeqAt.EqAt.same _
  · refine PySem.SeqAt.EqAt.of_refs e ?_
    have h := PySem.SeqAt.RcAt.tuples (A := A) (s := s) (e := fun _ => true) ha hb hu (fun j h1 h2 => ?_)
    · exact h
    · have hj : j = 0 ∨ j = 1 := by simp at h1; omega
      rcases hj with rfl | rfl
      · exact (Twin.str x t1 u1 A.in1 s).2
      · exact (Twin.str y t2 u2 A.in1 s).2
/-- lists whose items are equal one by one -/
theorem ne_lists {prog : Program} {w : World} {A : Around} {E : Value → Shared → Prop} {s : Shared} {a b : Addr} {vs us : List Value} {Q : Value → Shared → Prop} (hl : s.heap.IsList a vs.toArray) (hb : s.heap.IsList b us.toArray) (hu : A.units < cLine)
    (h : PySem.Paired (fun v u => PySem.SeqAt.EqAt A.in1 s v u true) vs us) (hq : Q (.bool false) s) : wpAny (model prog w) A (compareOp .NotEq (.ref a) (.ref b)) Q E s := by
  have hlen := h.length
  refine cmp_ofNotEq ?_
  have := PySem.SeqAt.RcNeAt.lists (A := A) (s := s) (e := fun _ => true) hl hb (by simpa using hlen) hu (fun j h1 h2 => ?_)
  · have e : (!(List.range vs.toArray.size).all fun _ => true) = false := by simp
    rw [e] at this
    exact this prog w E Q hq
  · have h1' : j < vs.length := by simpa using h1
    obtain ⟨u, hu1, hu2⟩ := Paired.at h (List.getElem?_eq_getElem h1')
    have e : us[j]'(by omega) = u := by
      have := List.getElem?_eq_getElem (l := us) (i := j) (by omega)
      rw [hu1] at this
      exact (Option.some.inj this).symm
    simpa [e] using hu2
/-- what a comp of pairs has made -/
def PairIn (new : List (Addr × Obj)) (y : Value) (q : Str × Str) : Prop := ∃ T t1 t2, y = .ref T ∧ (T, ({ cls := .type "tuple", data := .seq #[.str q.1 t1, .str q.2 t2] } : Obj)) ∈ new
theorem pairs_eq {A : Around} {s : Shared} (hu : A.units < cLine) {new : List (Addr × Obj)} (hn : ∀ q ∈ new, s.heap.get? q.1 = some q.2) : ∀ {vs us : List Value} {rs : List (Str × Str)}, Rows s.heap vs rs → PySem.Paired (PairIn new) us rs → PySem.Paired (fun v u => PySem.SeqAt.EqAt A s v u true) vs us
  | _, _, _, .nil, .nil => .nil
  | _, _, _, .cons a r, .cons b q => by
    refine .cons ?_ (pairs_eq hu hn r q)
    obtain ⟨x, t1, t2, rfl, i, _⟩ := a
    obtain ⟨T, u1, u2, rfl, hm⟩ := b
    exact tup2_eq i ⟨_, hn _ hm, rfl, _, rfl⟩ hu
theorem PairIn.mono {l l' : List (Addr × Obj)} {y : Value} {q : Str × Str} (hs : ∀ p ∈ l, p ∈ l') (h : PairIn l y q) : PairIn l' y q := let ⟨T, t1, t2, e, m⟩ := h; ⟨T, t1, t2, e, hs _ m⟩
theorem allLt_ne {d : Addr} : ∀ {l : List (Addr × Obj)}, AllLt d l → ∀ p ∈ l, d ≠ p.1
  | [], _, _, h => nomatch h
  | _ :: _, ⟨a, r⟩, p, h => by
    rcases List.mem_cons.mp h with rfl | h
    · exact Nat.ne_of_gt a
    · exact allLt_ne r p h
def en : Option Str := some (Str.ofString "en")
def de : Option Str := some (Str.ofString "de")
def nt : Option Str := some (Str.ofString "")
def wishes : List (List (Option Str)) := [[en, de, nt, none], [de, nt, none, en], [nt, none, en, de], [none, en, de, nt]]
def WishPost (s : Shared) (base : Heap) (L cp r : Addr) (m : Str → Option Value) (led : List (Addr × Obj)) (v : Value) (s' : Shared) : Prop :=
  ∃ wl nw ws wish hW tkW, v = .ref wl ∧ s' = { s with heap := hW, toks := tkW } ∧ Fr base L hW m ∧ News base L hW ((wl, listOf (List.toArray ws) nw) :: led) ∧ PySem.Paired (OHi tkW) ws wish ∧ wish ∈ wishes ∧ wl ≠ cp ∧ wl ≠ r
theorem wishCut {M : Model} {A : Around} {t : Sem Value} {Q : Value → Shared → Prop} {E : Value → Shared → Prop} {s : Shared} {base : Heap} {L : Addr} (cp r : Addr) {m : Str → Option Value} {x : Addr × Obj} {led : List (Addr × Obj)} (_ : Fr base L s.heap m) (_ : News base L s.heap (x :: led))
    (h1 : wpAny M A t (WishPost s base L cp r m led) E s) (h2 : ∀ v s', WishPost s base L cp r m led v s' → Q v s') : wpAny M A t Q E s := wpAny_mono h1 h2 fun _ _ e => e
theorem wish_end {s : Shared} {base hW : Heap} {L cp r wl : Addr} {m : Str → Option Value} {led : List (Addr × Obj)} {ws : List Value} {nw tkW : Nat} {wish : List (Option Str)} (F : Fr base L hW m) (hw : hW.get? wl = some (listOf ws.toArray nw)) (hl : wl ≠ L) (h0 : base.get? wl = none)
    (Nl : News base L hW led) (pp : PySem.Paired (OHi tkW) ws wish) (mm : wish ∈ wishes) (hc : wl ≠ cp) (hr : wl ≠ r) : WishPost s base L cp r m led (.ref wl) { s with heap := hW, toks := tkW } :=
  ⟨wl, nw, ws, wish, hW, tkW, rfl, rfl, F, fun p hp => by
    rcases List.mem_cons.mp hp with rfl | hp
    · exact ⟨hw, hl, h0⟩
    · exact Nl p hp, pp, mm, hc, hr⟩
theorem ohi_str {N t : Nat} {x : Str} (h0 : 0 < t) (h1 : t < N) : OHi N (.str x t) (some x) := ⟨t, rfl, h0, h1⟩
theorem ohi_none {N : Nat} : OHi N .none none := rfl
end

section
theorem resetPlB : True := by w_top off; trivial

theorem mem_wishes {wish : List (Option Str)} (h : wish ∈ wishes) : wish = [en, de, nt, none] ∨ wish = [de, nt, none, en] ∨ wish = [nt, none, en, de] ∨ wish = [none, en, de, nt] := by
  simpa [wishes] using h
def idxW (wish : List (Option Str)) (o : Option Str) : Nat := wish.findIdx fun q => decide (q = o)
theorem wish_nodup {wish : List (Option Str)} (h : wish ∈ wishes) : wish.Nodup := by
  rcases mem_wishes h with rfl | rfl | rfl | rfl <;> decide +kernel
theorem wish_all {wish : List (Option Str)} (h : wish ∈ wishes) {o : Option Str} (ho : o ∈ wished) : o ∈ wish := by
  have : o = en ∨ o = de ∨ o = nt ∨ o = none := by simpa [wished, en, de, nt] using ho
  rcases mem_wishes h with rfl | rfl | rfl | rfl <;> rcases this with rfl | rfl | rfl | rfl <;> simp
theorem idxW_at {wish : List (Option Str)} (hn : wish.Nodup) {i : Nat} {o : Option Str} (h : wish[i]? = some o) : idxW wish o = i := by
  refine findIdx_at (fun q hq e => ?_) h
  obtain ⟨hi, e1⟩ := List.getElem?_eq_some_iff.mp h
  obtain ⟨j, hj, e2⟩ := List.mem_take_iff_getElem.mp hq
  have : j = i := (List.getElem_inj hn).mp (by rw [e2, e1, e])
  omega
theorem idxW_inj {wish : List (Option Str)} (hn : wish.Nodup) {a b : Option Str} (ha : a ∈ wish) (hb : b ∈ wish) (h : idxW wish a = idxW wish b) : a = b := by
  obtain ⟨i, hi, ea⟩ := List.mem_iff_getElem.mp ha
  obtain ⟨j, hj, eb⟩ := List.mem_iff_getElem.mp hb
  have e1 := idxW_at hn (show wish[i]? = some a by rw [List.getElem?_eq_getElem hi, ea])
  have e2 := idxW_at hn (show wish[j]? = some b by rw [List.getElem?_eq_getElem hj, eb])
  have : i = j := by omega
  subst this
  rw [← ea, ← eb]
theorem findIdx_congr {α : Type} {p p' : α → Bool} : ∀ {l : List α}, (∀ q ∈ l, p q = p' q) → l.findIdx p = l.findIdx p'
  | [], _ => rfl
  | a :: l, h => by
    rw [List.findIdx_cons, List.findIdx_cons, h a List.mem_cons_self, findIdx_congr fun q hq => h q (List.mem_cons_of_mem _ hq)]
/-- the value in the most wished tongue is the one of the least rank -/
theorem chosen_best {ts wish : List (Option Str)} (hw : wish ∈ wishes) (hts : ∀ o ∈ ts, o ∈ wished) {r : Option (Nat × Nat)} (h : IsBest (ts.map fun o => ((idxW wish o : Nat) : Int)) r) : r = chosen ts wish := by
  have hn := wish_nodup hw
  have hin : ∀ o ∈ ts, o ∈ wish := fun o ho => wish_all hw (hts o ho)
  rcases h with ⟨h1, rfl⟩ | ⟨M, hM, hmin, rfl⟩
  · have : ts = [] := by simpa using h1
    subst this
    exact (chosen_none (fun q _ => List.not_mem_nil)).symm
  · obtain ⟨o, ho, rfl⟩ := List.mem_map.mp hM
    obtain ⟨i, hi, e⟩ := List.mem_iff_getElem.mp (hin o ho)
    have hq : wish[i]? = some o := by rw [List.getElem?_eq_getElem hi, e]
    have hidx := idxW_at hn hq
    have hno : ∀ q ∈ wish.take i, q ∉ ts := by
      intro q hq' hqt
      obtain ⟨j, hj, e2⟩ := List.mem_take_iff_getElem.mp hq'
      have hj' : j < wish.length := by omega
      have e3 := idxW_at hn (show wish[j]? = some q by rw [List.getElem?_eq_getElem hj', e2])
      have := hmin _ (List.mem_map.mpr ⟨q, hqt, rfl⟩)
      omega
    rw [chosen_at hno hq ho]
    have key : ∀ q ∈ ts, (((idxW wish q : Nat) : Int) = ((idxW wish o : Nat) : Int)) ↔ q = o := fun q hq =>
      ⟨fun e => idxW_inj hn (hin q hq) (hin o ho) (by omega), fun e => by rw [e]⟩
    congr 1
    refine Prod.ext ?_ ?_
    · show (ts.map fun o => ((idxW wish o : Nat) : Int)).count _ = (ts.filter fun q => decide (q = o)).length
      rw [List.count_eq_countP, List.countP_map, ← List.countP_eq_length_filter]
      refine List.countP_congr fun q hq => ?_
      simp only [Function.comp, beq_iff_eq, decide_eq_true_eq]
      exact key q hq
    · show (ts.map fun o => ((idxW wish o : Nat) : Int)).findIdx _ = ts.findIdx _
      rw [List.findIdx_map]
      exact findIdx_congr fun q hq => by
        simp only [Function.comp]
        exact decide_eq_decide.mpr (key q hq)
theorem tup_eq {A : Around} {s : Shared} {a b : Addr} {xs ys : Array Value} (ha : IsTup s.heap a xs) (hb : IsTup s.heap b ys) (hu : A.units < cLine) (hsz : xs.size = ys.size)
    (he : ∀ j (h1 : j < xs.size) (h2 : j < ys.size), PySem.SeqAt.EqAt A.in1 s xs[j] ys[j] true) : PySem.SeqAt.EqAt A s (.ref a) (.ref b) true := by
  by_cases e : a = b
  · subst e; exact PySem.SeqAt.EqAt.same _
  · refine PySem.SeqAt.EqAt.of_refs e ?_
    have h := PySem.SeqAt.RcAt.tuples (A := A) (s := s) (e := fun _ => true) ha hb hu he
    have q : ((List.range (min xs.size ys.size)).all (fun _ => true) && xs.size == ys.size) = true := by simp [hsz]
    rw [q] at h
    exact h
theorem lst_eq {A : Around} {s : Shared} {a b : Addr} {xs ys : Array Value} (ha : s.heap.IsList a xs) (hb : s.heap.IsList b ys) (hu : A.units < cLine) (hsz : xs.size = ys.size)
    (he : ∀ j (h1 : j < xs.size) (h2 : j < ys.size), PySem.SeqAt.EqAt A.in1 s xs[j] ys[j] true) : PySem.SeqAt.EqAt A s (.ref a) (.ref b) true := by
  by_cases e : a = b
  · subst e; exact PySem.SeqAt.EqAt.same _
  · refine PySem.SeqAt.EqAt.of_refs e ?_
    have h := PySem.SeqAt.RcAt.lists (A := A) (s := s) (e := fun _ => true) ha hb hsz hu he
    have q : ((List.range xs.size).all fun _ => true) = true := by simp
    rw [q] at h
    exact h
/-- what the law lays beside what decode_rfc2231 gave: the thing itself, or the list of its parts -/
def WantIn (h : Heap) (new : List (Addr × Obj)) (y : Value) (t : Th) : Prop := match t.head with
  | none => ThAt h y t
  | some p => ∃ a t1 t2 t3 n, y = .ref a ∧ (a, listOf [.str p.1 t1, .str p.2 t2, .str t.text t3].toArray n) ∈ new
theorem WantIn.mono {h : Heap} {l l' : List (Addr × Obj)} {v : Value} {t : Th} (hs : ∀ p ∈ l, p ∈ l') (x : WantIn h l v t) : WantIn h l' v t := by
  unfold WantIn at x ⊢
  split
  · simp_all
  · rename_i p hp
    rw [hp] at x
    obtain ⟨a, t1, t2, t3, n, e, m⟩ := x
    exact ⟨a, t1, t2, t3, n, e, hs _ m⟩
theorem back_want {A : Around} {s : Shared} {N : Nat} {h : Heap} {new : List (Addr × Obj)} (hu : A.units < cLine) (hk : ∀ b o, h.get? b = some o → s.heap.get? b = some o) (hn : ∀ q ∈ new, s.heap.get? q.1 = some q.2) {v y : Value} {t : Th} (x : BackT N s.heap v t) (z : WantIn h new y t) : PySem.SeqAt.EqAt A s v y true := by
  obtain ⟨a, rfl, x⟩ := x
  unfold WantIn at z
  cases hd : t.head with
  | none =>
    rw [hd] at x z
    obtain ⟨t1, i⟩ := x
    obtain ⟨b, rfl, z⟩ := z
    rw [hd] at z
    obtain ⟨t2, j⟩ := z
    refine tup_eq i (IsTup.keeps j hk) hu rfl fun j h1 h2 => ?_
    have hj : j = 0 ∨ j = 1 ∨ j = 2 := by simp at h1; omega
    rcases hj with rfl | rfl | rfl
    · exact (Twin.none A.in1 s).2
    · exact (Twin.none A.in1 s).2
    · exact (Twin.str t.text t1 t2 A.in1 s).2
  | some p =>
    rw [hd] at x z
    obtain ⟨t1, t2, t3, i, _⟩ := x
    obtain ⟨b, u1, u2, u3, n, rfl, m⟩ := z
    refine lst_eq i ⟨_, hn _ m, rfl, n, rfl⟩ hu rfl fun j h1 h2 => ?_
    have hj : j = 0 ∨ j = 1 ∨ j = 2 := by simp at h1; omega
    rcases hj with rfl | rfl | rfl
    · exact (Twin.str p.1 t1 u1 A.in1 s).2
    · exact (Twin.str p.2 t2 u2 A.in1 s).2
    · exact (Twin.str t.text t3 u3 A.in1 s).2
theorem backs_want {A : Around} {s : Shared} {N : Nat} {h : Heap} {new : List (Addr × Obj)} (hu : A.units < cLine) (hk : ∀ b o, h.get? b = some o → s.heap.get? b = some o) (hn : ∀ q ∈ new, s.heap.get? q.1 = some q.2) : ∀ {vs us : List Value} {ts : List Th}, PySem.Paired (BackT N s.heap) vs ts → PySem.Paired (WantIn h new) us ts → PySem.Paired (fun v u => PySem.SeqAt.EqAt A s v u true) vs us
  | _, _, _, .nil, .nil => .nil
  | _, _, _, .cons a r, .cons b q => .cons (back_want hu hk hn a b) (backs_want hu hk hn r q)
theorem pair_ne {prog : Program} {w : World} {A : Around} {E : Value → Shared → Prop} {s : Shared} {v v' : Value} {r : Option (Nat × Nat)} {Q : Value → Shared → Prop} (h : PairAt s.heap v r) (h' : PairAt s.heap v' r) (hu : A.units < cLine) (hq : Q (.bool false) s) : wpAny (model prog w) A (compareOp .NotEq v v') Q E s := by
  obtain ⟨a, rfl, x⟩ := h
  obtain ⟨b, rfl, y⟩ := h'
  have go : ∀ {xs ys : Array Value}, IsTup s.heap a xs → IsTup s.heap b ys → xs.size = ys.size → (∀ j (h1 : j < xs.size) (h2 : j < ys.size), PySem.SeqAt.EqAt A.in1 s xs[j] ys[j] true) → wpAny (model prog w) A (compareOp .NotEq (.ref a) (.ref b)) Q E s := by
    intro xs ys i j hsz he
    have h := PySem.SeqAt.RcNeAt.tuples (A := A) (s := s) (e := fun _ => true) i j hu he
    have q : (!((List.range (min xs.size ys.size)).all (fun _ => true) && xs.size == ys.size)) = false := by simp [hsz]
    rw [q] at h
    exact cmp_ofNotEq (h prog w E Q hq)
  cases r with
  | none =>
    obtain ⟨t, i⟩ := x
    obtain ⟨u, j⟩ := y
    refine go i j rfl fun k h1 h2 => ?_
    have hj : k = 0 ∨ k = 1 := by simp at h1; omega
    rcases hj with rfl | rfl
    · exact (Twin.int 0 t u A.in1 s).2
    · exact (Twin.none A.in1 s).2
  | some p =>
    obtain ⟨t1, t2, i⟩ := x
    obtain ⟨u1, u2, j⟩ := y
    refine go i j rfl fun k h1 h2 => ?_
    have hj : k = 0 ∨ k = 1 := by simp at h1; omega
    rcases hj with rfl | rfl
    · exact (Twin.int _ t1 u1 A.in1 s).2
    · exact (Twin.int _ t2 u2 A.in1 s).2
def PInv (hsh : Int) (ktk : Tok) (x d r cp cg wl : Addr) (og : Obj) (vs : List Value) (n : Nat) (kp : Addr) (kvs : List Value) (ks : List Ent) (ws : List Value) (nw : Nat) (_i : Nat) (m : Str → Option Value) (led : List (Addr × Obj)) (h : Heap) : Prop :=
  ∃ (op : Obj) (pv : Option Value), led = [(x, instObj 239 d), (d, dictOf [⟨hsh, .str (Str.ofString "_headers") ktk, .ref r⟩] 1), (r, listOf vs.toArray n), (cp, op), (cg, og)] ∧ op.data = .cell pv ∧
    m (Str.ofString "table") = some (.ref x) ∧ m (Str.ofString "kept") = some (.ref kp) ∧ m (Str.ofString "wish") = some (.ref wl) ∧ Rows h vs (ks.map row) ∧ h.IsList kp kvs.toArray ∧ Ents h kvs ks ∧ h.get? wl = some (listOf ws.toArray nw)
theorem PInv.st {hsh : Int} {ktk : Tok} {x d r cp cg wl : Addr} {og : Obj} {vs : List Value} {n : Nat} {kp : Addr} {kvs : List Value} {ks : List Ent} {ws : List Value} {nw i : Nat} {m : Str → Option Value} {led : List (Addr × Obj)} {h h' : Heap} (q : PInv hsh ktk x d r cp cg wl og vs n kp kvs ks ws nw i m led h)
    (k : ∀ b o, h.get? b = some o → o.cls ≠ .type "range_iterator" → h'.get? b = some o) : PInv hsh ktk x d r cp cg wl og vs n kp kvs ks ws nw i m led h' := by
  obtain ⟨op, pv, a1, a2, a3, a4, a5, a6, ⟨o2, b3, c2, b4⟩, a8, a9⟩ := q
  have kt : SeqKeep r h h' := fun b o _ _ e _ c => k b o e (by rcases c with c | ⟨c, _⟩ <;> (rw [c]; decide))
  exact ⟨op, pv, a1, a2, a3, a4, a5, Rows.tk a6 kt, ⟨o2, k _ _ b3 (by rw [c2]; decide), c2, b4⟩, Ents.tk a8 kt, k _ _ a9 (by show Value.type "list" ≠ _; decide)⟩
theorem led6R {r I x d cp cg : Addr} {oI op og : Obj} {es : List DictEntry} {k : Nat} {ys : Array Value} {n : Nat} {gp gg : Option Value} (hI : oI.cls = .type "range_iterator") (hp : op.data = .cell gp) (hg : og.data = .cell gg) :
    ∀ p ∈ [(I, oI), (x, instObj 239 d), (d, dictOf es k), (r, listOf ys n), (cp, op), (cg, og)], Aside r p := fun p h => by
  rcases List.mem_cons.mp h with rfl | h
  · exact .inr (.inl ⟨by rw [hI]; decide, by rw [hI]; decide⟩)
  · exact led5 hp hg p h
theorem range3_K {prog : Program} {w : World} {A : Around} {E : Value → Shared → Prop} {s : Shared} {h₀ : Heap} {L : Addr} {m : Str → Option Value} {news : List (Addr × Obj)} {t0 : Tok} {Q : Value → Shared → Prop} (F : Fr h₀ L s.heap m) (N : News h₀ L s.heap news)
    (h : ∀ h' r t u v o, Fr h₀ L h' m → News h₀ L h' ((r, o) :: news) → IsRange h' r 0 3 1 t u v → Q (.ref r) { s with heap := h', toks := s.toks + 1 + 1 }) : wpAny (model prog w) A (call (.type "range") [.int 3 t0]) Q E s :=
  call_range_1 (h _ _ _ _ _ _ (F.push _) (News.push F N _) (Heap.get?_push_size _ rfl))
theorem paired_unmap {α β : Type} {R : Value → β → Prop} {f : α → β} : ∀ {vs : List Value} {l : List α}, PySem.Paired R vs (l.map f) → PySem.Paired (fun v a => R v (f a)) vs l
  | [], [], _ => .nil
  | _ :: _, _ :: _, .cons a r => .cons a (paired_unmap r)
theorem BackT.tk {r : Addr} {N : Nat} {h h' : Heap} {v : Value} {t : Th} (x : BackT N h v t) (k : SeqKeep r h h') (hr : ∀ a, v = .ref a → a ≠ r) : BackT N h' v t := by
  obtain ⟨a, e, x⟩ := x
  refine ⟨a, e, ?_⟩
  cases hd : t.head with
  | none =>
    rw [hd] at x
    obtain ⟨t1, i⟩ := x
    exact ⟨t1, IsTup.tk i k⟩
  | some p =>
    rw [hd] at x
    obtain ⟨t1, t2, t3, i, n⟩ := x
    exact ⟨t1, t2, t3, IsList.tk i k (hr a e), n⟩
theorem PairAt.keeps {h h' : Heap} {v : Value} {r : Option (Nat × Nat)} (x : PairAt h v r) (k : ∀ b o, h.get? b = some o → h'.get? b = some o) : PairAt h' v r := by
  obtain ⟨a, e, x⟩ := x
  refine ⟨a, e, ?_⟩
  cases r with
  | none => obtain ⟨t, i⟩ := x; exact ⟨t, i.keeps k⟩
  | some p => obtain ⟨t1, t2, i⟩ := x; exact ⟨t1, t2, i.keeps k⟩
theorem best_chosen {ths : List Th} {wish : List (Option Str)} (hw : wish ∈ wishes) (hts : ∀ t ∈ ths, tongueOf t ∈ wished) {r : Option (Nat × Nat)} (h : IsBest (ths.map fun q => ((wish.findIdx fun z => decide (z = tongueOf q) : Nat) : Int)) r) : r = chosen (ths.map tongueOf) wish := by
  refine chosen_best hw (fun o ho => ?_) ?_
  · obtain ⟨t, ht, rfl⟩ := List.mem_map.mp ho
    exact hts t ht
  · rw [List.map_map]; exact h
end

section
theorem resetLaw : True := by w_top off; trivial
local macro_rules | `(tactic| walk_at "zz pad") => `(tactic| fail)
local macro_rules | `(tactic| k_qdec) => `(tactic| decide +kernel)
local macro_rules | `(tactic| walk_at "exec For") => `(tactic| (k_here; refine Held.out ?_))
local macro_rules | `(tactic| walk_at "exec Assign cons ListComp") => `(tactic| (k_here; refine Held.out ?_))
local macro_rules | `(tactic| k_all) => `(tactic| assumption)
local macro_rules | `(tactic| walk_at "call ref") => `(tactic| (k_here; (with_reducible show wpAny _ _ (call (Value.ref 250) _ _) _ _ _); k_dflt (refine' pk_K (title_ok (Frag.In.keeps ?X (Fr.keep ?F1)) (Top.keeps ?T (Fr.keep ?F2)) ?hh ?r ?g0 ?g1) ?F ?N ?_; (case X => k_asm); (case T => k_asm); (case F1 => k_asm); (case F2 => k_asm); (case F => k_asm); (case N => k_asm); (case r => ktr_room); (case hh => first | assumption | rfl); (case g0 => first | assumption | exact fm_lo _ (by decide) | decide); (case g1 => first | assumption | exact fm_hi _ (by decide) | decide); k_whole); intro v' h' tk' g' kp' F' N'; obtain ⟨tk9, e9⟩ := g'; subst e9; (try k_sweep)))
local macro_rules | `(tactic| walk_at "eval Name") => `(tactic| (k_here; (fail_if_success (with_reducible show wpAny _ _ (eval (PySem.Expr.Name (PySem.Str.ofString "_law_written") _) _) _ _ _)); (fail_if_success (with_reducible show wpAny _ _ (eval (PySem.Expr.Name (PySem.Str.ofString "decode_rfc2231") _) _) _ _ _)); (fail_if_success (with_reducible show wpAny _ _ (eval (PySem.Expr.Name (PySem.Str.ofString "list") _) _) _ _ _)); (fail_if_success (with_reducible show wpAny _ _ (eval (PySem.Expr.Name (PySem.Str.ofString "_law_title") _) _) _ _ _)); k_dflt (first
  | (refine' cname_L ?F ?v ?_ ?L ?a ?b ?d; (case F => k_asm); (case L => rfl); (case a => rfl); (case b => rfl); (case d => decide); (case v => first | assumption | rfl | ((repeat rw [if_neg (by decide)]); assumption)); k_whole)
  | (refine' cname_C ?F ?c ?o ?d ?_ ?a ?b ?e; (case F => k_asm); (case c => rfl); (case a => rfl); (case b => rfl); (case e => decide); (case o => assumption); (case d => assumption); k_whole))))
local macro_rules | `(tactic| walk_at "call ref") => `(tactic| (k_here; (first | (with_reducible show wpAny _ _ (call (Value.ref 257) _ _) _ _ _) | (with_reducible show wpAny _ _ (call (Value.ref 264) _ _) _ _ _) | (with_reducible show wpAny _ _ (call (Value.ref 276) _ _) _ _ _) | (with_reducible show wpAny _ _ (call (Value.ref 271) _ _) _ _ _) | (with_reducible show wpAny _ _ (call (Value.ref 59) _ _) _ _ _) | (with_reducible show wpAny _ _ (call (Value.ref 38) _ _) _ _ _) | (with_reducible show wpAny _ _ (call (Value.ref 81) _ _) _ _ _) | (with_reducible show wpAny _ _ (call (Value.ref 203) _ _) _ _ _) | (with_reducible show wpAny _ _ (call (Value.ref 178) _ _) _ _ _) | (with_reducible show wpAny _ _ (call (Value.ref 95) _ _) _ _ _) | (with_reducible show wpAny _ _ (call (Value.ref 281) _ _) _ _ _) | (with_reducible show wpAny _ _ (call (Value.ref 286) _ _) _ _ _)); refine Held.out ?_))
local macro_rules | `(tactic| walk_at "assign Tuple") => `(tactic| (k_here; k_dflt (refine' assign2_K ?h ?F ?N ?t ?L ?a ?b ?p ?_; (case h => first | assumption | rfl); (case F => k_asm); (case N => k_asm); (case L => rfl); (case a => rfl); (case b => rfl); (case p => rfl); (case t => first | assumption | exact IsTup.keeps (by assumption) (Fr.keep (by k_asm)))); intro h' tk' F' N'; (try k_sweep)))
local macro_rules | `(tactic| walk_at "subscriptTail") => `(tactic| (k_here; (with_reducible show wpAny _ _ (subscriptTail _ _ (Value.ref _) (Value.int 0 _)) _ _ _); k_dflt (refine' menu_at ?N ?m ?h0 ?hhi ?hx ?_ ?s; (case N => k_asm); (case m => k_mem); (case h0 => decide); (case hhi => decide); (case hx => rfl); (case s => with_unfolding_all rfl); k_whole)))
local macro_rules | `(tactic| walk_at "compareOp NotEq ref ref") => `(tactic| (k_here; k_dflt (first
  | (refine' ne_cons ?a ?b ?u ?_; (case a => exact led_list (by k_asm) (by k_mem)); (case b => exact led_list (by k_asm) (by k_mem)); (case u => first | units_room | ktr_units | k_units); k_whole)
  | (refine' ne_nil ?a ?b ?u ?_; (case a => exact led_list (by k_asm) (by k_mem)); (case b => exact led_list (by k_asm) (by k_mem)); (case u => first | units_room | ktr_units | k_units); k_whole))))
local macro_rules | `(tactic| walk_at "compareOp NotEq str str") => `(tactic| (k_here; refine Twin.ne (Twin.str _ _ _) ?_))
local macro_rules | `(tactic| walk_at "compareOp NotEq none none") => `(tactic| (k_here; refine Twin.ne Twin.none ?_))
local macro_rules | `(tactic| walk_at "compareOp NotEq bool bool") => `(tactic| (k_here; refine Twin.ne (Twin.bool _) ?_))
local macro_rules | `(tactic| walk_at "compareOp NotEq int int") => `(tactic| (k_here; refine Twin.ne (Twin.int _ _ _) ?_))
local macro_rules | `(tactic| walk_at "subscriptTail") => `(tactic| (k_here; (with_reducible show wpAny _ _ (subscriptTail _ _ (Value.ref _) (Value.int _ _)) _ _ _); k_dflt (refine' item_tupleT ?t ?a ?b ?c ?d ?_; (case t => first | (with_reducible assumption) | exact IsTup.keeps (by with_reducible assumption) (Fr.keep (by k_asm))); (case a => decide); (case b => decide); (case c => rfl); (case d => rfl); k_whole)))
local macro_rules | `(tactic| walk_at "call builtin:len") => `(tactic| (k_here; (with_reducible show wpAny _ _ (call (Value.builtin "len") [Value.ref _]) _ _ _); refine Held.out ?_))
local macro_rules | `(tactic| walk_at "eval ListComp") => `(tactic| (k_here; refine Held.out ?_))
local macro_rules | `(tactic| walk_at "binaryOp Mod int int") => `(tactic| (k_here; (fail_if_success (with_reducible rename Phase2 _ => hph)); (with_reducible show wpAny _ _ (binaryOp _ (Value.int _ _) (Value.int 4 _)) _ _ _); refine Held.out ?_))
local macro_rules | `(tactic| walk_at "execs cons") => `(tactic| (k_here; (with_reducible rename Phase2 _ => hph9); (with_reducible show wpAny _ _ _ _ _ (Shared.mk _ _ _ (_ + _) _)); refine gen_toks hph9 ?n (fun k9 hk9 => ?_); (case n => ((try dsimp only); omega)); (try dsimp only)))
local macro_rules | `(tactic| walk_at "subscriptTail") => `(tactic| (k_here; (fail_if_success (with_reducible show wpAny _ _ (subscriptTail (PySem.Expr.Name _ _) _ _ _) _ _ _)); (with_reducible show wpAny _ _ (subscriptTail _ (PySem.Expr.Slice _ _ _ _) _ _) _ _ _); k_dflt (refine kba_turn (value' := PySem.Expr.Name (PySem.Str.ofString "_") ⟨0, 0, 0, 0⟩) (fun _ => rfl) ?_)))
local macro_rules | `(tactic| walk_at "subscriptTail List Slice ref ref") => `(tactic| (k_here; (with_reducible show wpAny _ _ (subscriptTail _ (PySem.Expr.Slice _ _ _ _) _ _) _ _ _); k_dflt (refine kba_turn (value' := PySem.Expr.Name (PySem.Str.ofString "_") ⟨0, 0, 0, 0⟩) (fun _ => rfl) ?_)))
local macro_rules | `(tactic| walk_at "call ref") => `(tactic| (k_here; (with_reducible rename Phase2 _ => hph9); (with_reducible show wpAny _ _ (call (Value.ref 250) _ _) _ _ _); refine Held.out ?_))
local macro_rules | `(tactic| walk_at "call type:range") => `(tactic| (k_here; (with_reducible rename Phase2 _ => hph9); refine Held.out ?_))
local macro_rules | `(tactic| walk_at "execs cons") => `(tactic| (k_here; (with_reducible rename Phase2 _ => hph9); (with_reducible show wpAny _ _ _ _ _ (Shared.mk _ _ _ (Shared.toks _) _)); refine gen_toks hph9 ?n (fun k9 hk9 => ?_); (case n => ((try dsimp only); omega)); (try dsimp only)))

theorem law_holds : PySem.Challenge.rw_wf0067_01.Holds := hd (by
  (k_go0; (all_goals try k_fold))
  k_steps
  refine Held.mk ?_
  (rename News _ _ _ _ => N0)
  (rename Fr _ _ _ _ => F0)
  k_dflt (refine' forH ?hh F0 ?_ ?hs; (case hh => rfl); (case hs => intro _; rfl))
  k_steps
  (rename News _ _ _ _ => N1)
  (rename Fr _ _ _ _ => F1)
  (rename IntsAre _ _ => hI)
  rename_i w12 s0 s1 mg mb G Y fa o1 pm doc ho1 hgens KX XP V GL T BT TE TW w11 w10 BM w9 w8 hcd w7 hsh0 hlay0 hL1 hr1 hl2 w6 w5 w4 w3 w2 hLs ra0 w1 r0 hIs hr0 hcond1 hcond0 K0 hDf hh1 tk1 op og hop hog X00 qk0 ek0
    rr _ q8 _ _ xx dd _ _ _ q7 ql2 _ _ _ _ _ _ _ _ _ _ _ _ _ _ _ _ q6 _ _ _ _ _ X0 _ _ kk _ q5 _ _ _ q4 _ _ _ _ hC hL8 q3 _ _ _ _ q2 _ _ q1 DD ws hh0 q0
  have N2 := (fun p hp => N1 p (List.mem_of_mem_drop (i := 6) hp) : News _ _ _ (List.drop 6 _))
  dsimp only [List.drop] at N2
  have hDD := led_list N1 (List.Mem.head _)
  have hkk := (N1 (kk, _) (by k_mem)).1
  have T0 : Top vwP _ _ mg mb T.heap := T
  refine ⟨DD, ws, _, _, 1, LInv _ _ xx dd rr (s1.heap.objs.size + 1 + 1) (s1.heap.objs.size + 1) DD w4 op ws, rfl, ?hN, F1, N2, ⟨[], 0, [], kk, [], og, _, rfl, hog, rfl, rfl, rfl, rfl, hDD, .nil, ⟨_, hkk, rfl, _, rfl⟩, .nil, by k_ne, by simp, by simp⟩, fun _ _ _ _ _ q k => LInv.st q k, fun i m led h q F3 N3 => ?hlist, ?turn, ?done⟩
  case hN => (try dsimp only); omega
  case hlist => (obtain ⟨_, _, _, _, _, _, _, _, _, _, _, _, _, q, _⟩ := q; exact q)
  case turn =>
    intro I i v m3 led h3 tk3 oI E3 hNk hv hInv F3 N3 hoff hIc
    obtain ⟨vs, n, ks, kp, kvs, og3, gv3, rfl, hog3, hm1, hm2, hm3, hm4, hax, hrs, hkp, hks, hkr, hkl, hok⟩ := hInv
    obtain ⟨xi, hxi, xt, rfl⟩ := Paired.at (pairedI hI) hv
    obtain ⟨tls, Nt, hne, back⟩ := rebaseS F3 N3 (led6 hIc hop hog3)
    simp only [List.cons_append, List.nil_append] at Nt
    have hcgt := hne _ (List.Mem.tail _ (List.Mem.tail _ (List.Mem.tail _ (List.Mem.tail _ (List.Mem.tail _ (List.Mem.head _))))))
    dsimp only at hcgt
    have hI1 : @Ne Nat xx I := hoff _ (List.Mem.head _)
    have hI2 : @Ne Nat dd I := hoff _ (List.Mem.tail _ (List.Mem.head _))
    have hI3 : @Ne Nat rr I := hoff _ (List.Mem.tail _ (List.Mem.tail _ (List.Mem.head _)))
    have hI4 : @Ne Nat (s1.heap.objs.size + 1 + 1) I := hoff _ (List.Mem.tail _ (List.Mem.tail _ (List.Mem.tail _ (List.Mem.head _))))
    have hI5 : @Ne Nat (s1.heap.objs.size + 1) I := hoff _ (List.Mem.tail _ (List.Mem.tail _ (List.Mem.tail _ (List.Mem.tail _ (List.Mem.head _)))))
    have hDr : DD ≠ rr := by k_ne
    (try clear N3); (try clear N2); (try clear N1); (try clear F1)
    k_steps
    -- thing
    refine Held.mk ?_
    (rename News _ _ _ _ => N5)
    (rename Fr _ _ _ _ => F5)
    have sk5 := back _ F5.keep (fun p hp => N5 p (List.mem_append_right [_, _, _, _, _, _] hp))
    refine pk_K (thing_ok (X0.keeps F5.keep) (T0.keeps F5.keep) rfl (by ktr_room) (y54_lo (fm_lo _ (by decide))) (y54_hi (fm_lo _ (by decide)) (fm_hi _ (by decide)))) F5 (fun p hp => N5 p (List.mem_append_left (as := [_, _, _, _, _, _]) tls hp)) ?_
    intro v6 h6 tk6 g6 kp6 F6 N6
    (rename Obj.data _ = Data.cell (some _) => hgc)
    obtain ⟨tl6, N6t, hne6, back6⟩ := rebaseS F6 N6 (led6 hIc hop hgc)
    simp only [List.cons_append, List.nil_append] at N6t
    have sk6 := sk5.trans (SeqKeep.of kp6)
    replace hrs := Rows.tk hrs sk6
    replace hks := Ents.tk hks sk6
    replace hkp := IsList.tk hkp sk6 hkr
    replace hax := IsList.tk hax sk6 hDr
    (try clear N6); (try clear N5); (try clear F5); (try clear Nt); (try clear hcgt); (try clear hne); (try clear back); (try clear sk5); (try clear sk6); (try clear kp6)
    k_steps
    -- due
    refine Held.mk ?_
    (rename News _ _ _ _ => N7)
    (rename Fr _ _ _ _ => F7)
    have sk7 := back6 _ F7.keep (fun p hp => N7 p (List.mem_append_right [_, _, _, _, _, _, _] hp))
    replace hrs := Rows.tk hrs sk7
    replace hks := Ents.tk hks sk7
    replace hkp := IsList.tk hkp sk7 hkr
    replace hax := IsList.tk hax sk7 hDr
    replace g6 := ThAt.tk g6 sk7
    have hvk : kvs.length ≤ 100 := by
      have e1 := hks.length
      have e2 := (List.getElem?_eq_some_iff.mp hv).1
      have e3 := hI.length
      have e4 : (List.take 8 w7).length ≤ 8 := by rw [List.length_take]; exact Nat.min_le_left _ _
      simp only [List.length_append, List.length_cons, List.length_nil] at e3
      omega
    have hkl100 : ks.length ≤ 50 := by
      have e2 := (List.getElem?_eq_some_iff.mp hv).1
      have e3 := hI.length
      have e4 : (List.take 8 w7).length ≤ 8 := by rw [List.length_take]; exact Nat.min_le_left _ _
      simp only [List.length_append, List.length_cons, List.length_nil] at e3
      omega
    have hvv : vs.length ≤ 100 := by
      have e1 := hrs.length
      have e2 := hks.length
      simp only [List.length_map] at e1
      omega
    have hnew : EntAt _ (.ref _) ⟨Int.fmod (Int.fdiv (Int.fmod xi 1000000000) 9) 3, tl (Int.fmod (Int.fdiv (Int.fmod xi 1000000000) 9) 3) (Int.fmod (Int.fdiv (Int.fmod xi 1000000000) 27) 2), thingOf (Int.fdiv (Int.fmod xi 1000000000) 54)⟩ := ⟨_, _, _, _, rfl, ⟨_, (N7 _ (List.Mem.head _)).1, rfl, _, rfl⟩, g6, (okTh _).short⟩
    have hE := okE (Int.fmod xi 1000000000) (Int.fdiv (Int.fmod xi 1000000000) 54)
    have hTi := okTi (Int.fmod xi 1000000000)
    have hTh := okTh (Int.fdiv (Int.fmod xi 1000000000) 54)
    have hk0 := fm_lo (Int.fmod xi 1000000000) (b := 9) (by decide)
    have hk9 := fm_hi (Int.fmod xi 1000000000) (b := 9) (by decide)
    refine pk_K (due_ok (X0.keeps F7.keep) (T0.keeps F7.keep) rfl (by ktr_room) (by ktr_units) hkp hks hvk hk0 hk9 hnew) F7 (fun p hp => N7 p (List.mem_cons_of_mem _ (List.mem_append_left (as := [_, _, _, _, _, _]) tl6 hp))) ?_
    intro v8 h8 tk8 g8 kp8 F8 N8
    obtain ⟨da, dv, kp2, kvs2, rfl, hdt, hdv, hkp2, hks2, hfr⟩ := g8
    have hkr2 : kp2 ≠ rr := by
      rcases hfr with rfl | hfr
      · exact hkr
      · rintro rfl
        have := (N7 (kp2, _) (by k_mem)).1
        rw [hfr] at this
        cases this
    obtain ⟨tl8, N8t, hne8, back8⟩ := rebaseS F8 N8 (led6 hIc hop hgc)
    simp only [List.cons_append, List.nil_append] at N8t
    have sk8 : SeqKeep rr _ h8 := SeqKeep.of kp8
    replace hrs := Rows.tk hrs sk8
    replace hax := IsList.tk hax sk8 hDr
    replace g6 := ThAt.tk g6 sk8
    (try clear N8); (try clear N7); (try clear F7); (try clear sk8); (try clear sk7); (try clear kp8); (try clear hne6); (try clear back6); (try clear N6t); (try clear hks); (try clear hkp); (try clear hnew); (try clear hfr)
    k_steps
    -- written
    refine Held.mk ?_
    (rename News _ _ _ _ => N9)
    (rename Fr _ _ _ _ => F9)
    have sk9 := back8 _ F9.keep (fun p hp => N9 p (List.mem_append_right [_, _, _, _, _, _] hp))
    refine pk_K (written_ok (X0.keeps F9.keep) (T0.keeps F9.keep) rfl (by ktr_room) (ThAt.tk g6 sk9) hTh.short) F9 N9 ?_
    intro v10 h10 tk10 g10 kp10 F10 N10
    obtain ⟨tk11, rfl⟩ := g10
    (try clear N9); (try clear F9); (try clear sk9); (try clear kp10)
    k_steps
    refine Held.mk ?_
    (rename News _ _ _ _ => N11)
    (rename Fr _ _ _ _ => F11)
    have sk11 := back8 _ F11.keep (fun p hp => N11 p (List.mem_append_right [_, _, _, _, _, _] hp))
    have hrr8 := hne8 _ (List.Mem.tail _ (List.Mem.tail _ (List.Mem.tail _ (List.Mem.head _))))
    dsimp only at hrr8
    have hxq := News.get (a := xx) N11 (by k_mem)
    have hdq := News.get (a := dd) N11 (by k_mem)
    have hrs11 := Rows.tk hrs sk11
    have N11r : News T.heap s1.heap.objs.size _ [(rr, listOf vs.toArray n)] := fun p hp => by rw [List.mem_singleton.mp hp]; exact N11 (rr, _) (by k_mem)
    k_dflt (refine' turnQ_K (do_ok K0 F11 X0 T0 ?hk N11r hxq hdq hrs11 hvv hTi.len hTh.len X0 T0 ?d1 ?u1 hTi.h1 hTi.h2 hTh.h3 hTh.h4 hTi.h6 hk0 hk9) F11 N11 ?U ?_; (case hk => rfl); (case d1 => exact Nat.lt_of_sub_eq_succ rfl); (case u1 => exact Nat.lt_of_sub_eq_succ rfl); (case U => k_updF))
    intro v12 h12 tk12 vs2 n2 hP hrs2 hz F12 N12
    (try dsimp only at N12)
    have sk12 := back8 _ F12.keep (fun p hp => N12 p (List.mem_append_right [_, _, _, _, _, _] hp))
    have N12r : News T.heap s1.heap.objs.size h12 _ := fun p hp => N12 p (List.mem_append_left (as := [_, _, _, _, _, _]) tl8 hp)
    replace hkp2 := IsList.tk hkp2 sk12 hkr2
    replace hks2 := Ents.tk hks2 sk12
    replace hax := IsList.tk hax sk12 hDr
    have hTw := do_due hok hE hk0 hk9 hP hdv
    have hRow := doR_row hok hE hk0 hk9
    dsimp only at hRow
    rw [hRow] at hrs2
    obtain ⟨tl12, N12t, hne12, back12⟩ := rebaseS F12 N12r (led6 hIc hop hgc)
    simp only [List.cons_append, List.nil_append] at N12t
    (try clear N11); (try clear F11); (try clear N11r); (try clear hxq); (try clear hdq); (try clear hrs11); (try clear sk11); (try clear N12); (try clear N12r); (try clear sk12); (try clear hrs); (try clear hdt); (try clear hdv); (try clear hP); (try clear hRow); (try clear hne8); (try clear back8); (try clear N8t); (try clear tl8); (try clear g6); (try clear hrr8)
    k_steps
    refine Twin.ne hTw ?_
    k_steps
    have hsub := @dueK_sub ks ⟨(Int.fmod (Int.fdiv (Int.fmod xi 1000000000) 9) 3), tl (Int.fmod (Int.fdiv (Int.fmod xi 1000000000) 9) 3) (Int.fmod (Int.fdiv (Int.fmod xi 1000000000) 27) 2), thingOf (Int.fdiv (Int.fmod xi 1000000000) 54)⟩ _ hk0 hk9
    have hok2 : ∀ q ∈ dueK (Int.fmod (Int.fmod xi 1000000000) 9) ks ⟨(Int.fmod (Int.fdiv (Int.fmod xi 1000000000) 9) 3), tl (Int.fmod (Int.fdiv (Int.fmod xi 1000000000) 9) 3) (Int.fmod (Int.fdiv (Int.fmod xi 1000000000) 27) 2), thingOf (Int.fdiv (Int.fmod xi 1000000000) 54)⟩, Ok q := fun q hq => (hsub.2 q hq).elim (hok q) (fun e => e ▸ hE)
    generalize dueK _ ks _ = ks2 at hrs2 hks2 hsub hok2
    refine Held.mk ?_
    have hcg12 := News.get (a := s1.heap.objs.size + 1) N12t (by k_mem)
    have hk2l : ks2.length ≤ 100 := by omega
    (with_reducible refine' assignCompG (cl := [(Str.ofString "group", s1.heap.objs.size + 1)]) (P := EntAt h12) (p := fun q => decide (q.g = (Int.fmod (Int.fdiv (Int.fmod xi 1000000000) 9) 3))) (G := fun _ y q => StrV y (wr q.th)) (fun _ _ _ _ _ z => z) ?h0 ?hsw ?h1 ?h2 ?h3 ?h4 ?h5 ?hy ?hp ?_ ?h6); (case h0 => exact rfl); (case hsw => with_unfolding_all rfl); (case h1 => with_unfolding_all rfl); (case h2 => decide); (case h3 => with_unfolding_all rfl); (case h4 => decide); (case h5 => with_unfolding_all rfl); (case hy => with_unfolding_all rfl); (case hp => with_unfolding_all rfl); (case h6 => intro _; with_unfolding_all rfl)
    walk1
    refine ⟨kp2, kvs2, ks2, _, rfl, hkp2, hks2, by (have := hks2.length; simp only [sizeLine_eq]; omega), F12.ns, ?_, ?_, ?_⟩
    · intro C v q h3 tk3 m3 l3 E3 hC hP F3 hm N3
      obtain ⟨a3, u1, u2, u3, rfl, i3, _⟩ := hP
      (try clear qk); (try clear ek); (try clear qk0); (try clear ek0); (try clear lifted); (try clear Y); (try clear G); (try clear hcd); (try clear hDf); (try clear w1); (try clear ra0); (try clear r0); (try clear hr0); (try clear XP); (try clear V); (try clear BT); (try clear TE); (try clear TW); (try clear BM); (try clear GL); (try clear hsh0); (try clear hlay0); (try clear hL1); (try clear hr1); (try clear hl2); (try clear KX); (try clear X00); (try clear hcond1); (try clear hcond0); (try clear hL8); (try clear hC); (try clear hLs); (try clear hIs); (try clear ho1); (try clear hgens); (try clear hop); (try clear hDD); (try clear hkk); (try clear hI); (try clear hax); (try clear hne12); (try clear back12); (try clear hTw); (try clear hE); (try clear hTi); (try clear hTh); (try clear hrs2); (try clear hks2); (try clear hsub); (try clear hok2); (try clear hok); (try clear hm1); (try clear hm2); (try clear hm3); (try clear hm4)
      refine wpAny_tests_one ?_
      k_steps
      exact ⟨_, _, [], rfl, by assumption, by assumption, fun _ h => (nomatch h), by first | rfl | simp⟩
    · intro C v q h3 tk3 m3 l3 E3 hC hP hp F3 hm N3
      obtain ⟨a3, u1, u2, u3, rfl, i3, t3, sh3⟩ := hP
      have X12 := X0.keeps F12.keep
      have T12 := T0.keeps F12.keep
      (try clear qk); (try clear ek); (try clear qk0); (try clear ek0); (try clear lifted); (try clear Y); (try clear G); (try clear hcd); (try clear hDf); (try clear w1); (try clear ra0); (try clear r0); (try clear hr0); (try clear XP); (try clear V); (try clear BT); (try clear TE); (try clear TW); (try clear BM); (try clear GL); (try clear hsh0); (try clear hlay0); (try clear hL1); (try clear hr1); (try clear hl2); (try clear KX); (try clear X00); (try clear hcond1); (try clear hcond0); (try clear hL8); (try clear hC); (try clear hLs); (try clear hIs); (try clear ho1); (try clear hgens); (try clear hop); (try clear hDD); (try clear hkk); (try clear hI); (try clear hax); (try clear hne12); (try clear back12); (try clear hTw); (try clear hE); (try clear hTi); (try clear hTh); (try clear hrs2); (try clear hks2); (try clear hsub); (try clear hok2); (try clear hok); (try clear hm1); (try clear hm2); (try clear hm3); (try clear hm4)
      k_steps
      refine Held.mk ?_
      (rename News _ _ _ _ => N4)
      (rename Fr _ _ _ _ => F4)
      refine pk_K (written_ok (X0.keeps fun b o e => F4.keep b o (F12.keep b o e)) (T0.keeps fun b o e => F4.keep b o (F12.keep b o e)) rfl (by ktr_room) (ThAt.keeps t3 F4.keep) sh3) F4 N4 ?_
      intro v' h' tk' g' kp' F' N'
      obtain ⟨tk9, rfl⟩ := g'
      exact ⟨_, _, [], rfl, F', N', fun _ h => (nomatch h), _, rfl⟩
    · intro D h13 tk13 ys n13 tl13 hD hgD hns13 hk13 htl13 hys
      have F13 := Fr.keepL F12 hns13 hk13
      have N13 := News.addL F12 N12t hk13 hD hgD
      (try clear hk13); (try clear hns13); (try clear F12); (try clear N12t); (try clear htl13); (try clear hcg12)
      k_steps
      refine Held.mk ?_
      (rename News _ _ _ _ => N14)
      (rename Fr _ _ _ _ => F14)
      have sk14 := back12 _ F14.keep (fun p hp => N14 p (List.mem_append_right [_, _, _, _, _, _, _] hp))
      have hTo : OkTi (Int.fmod (Int.fdiv (Int.fmod xi 1000000000) 9) 3) (1 - (Int.fmod (Int.fdiv (Int.fmod xi 1000000000) 27) 2)) := .of (fm_lo _ (by decide)) (fm_hi _ (by decide)) (by have := fm_hi (Int.fdiv (Int.fmod xi 1000000000) 27) (b := 2) (by decide); omega) (by have := fm_lo (Int.fdiv (Int.fmod xi 1000000000) 27) (b := 2) (by decide); omega)
      have hvs2 : vs2.length ≤ 100 := by
        have := hrs2.length
        simp only [List.length_map] at this
        omega
      have hol : (tl (Int.fmod (Int.fdiv (Int.fmod xi 1000000000) 9) 3) (1 - (Int.fmod (Int.fdiv (Int.fmod xi 1000000000) 27) 2))).length ≤ 100 := Nat.le_trans hTo.len (by decide)
      refine pk_K (getitem_ok (X0.keeps F14.keep) (T0.keeps F14.keep) rfl (by ktr_room) (News.get (a := xx) N14 (by k_mem)) (News.get (a := dd) N14 (by k_mem)) (News.get (a := rr) N14 (by k_mem)) (Rows.tk hrs2 sk14) hvs2 hol hTo.h2) F14 N14 ?_
      intro v15 h15 tk15 g15 kp15 F15 N15
      have hfr := find_row hok2 (fm_lo _ (by decide)) (fm_hi _ (by decide)) hTo.low
      replace g15 : GetIs (ks2.map row) (Txt.lower (tl (Int.fmod (Int.fdiv (Int.fmod xi 1000000000) 9) 3) (1 - (Int.fmod (Int.fdiv (Int.fmod xi 1000000000) 27) 2)))) v15 := g15
      unfold GetIs at g15
      rw [hfr] at g15
      have hzl : vs2.toArray.size = kvs2.toArray.size := by
        have e1 := hrs2.length
        have e2 := hks2.length
        simp only [List.length_map] at e1
        simp only [List.size_toArray]
        omega
      have hkz : kvs2.length ≤ 100 := by
        have e2 := hks2.length
        omega
      (try clear N14); (try clear F14); (try clear sk14); (try clear kp15)
      cases hfl : ks2.filter (fun q => decide (q.g = (Int.fmod (Int.fdiv (Int.fmod xi 1000000000) 9) 3))) with
      | nil =>
        rw [hfl] at hys g15 hfr
        cases hys
        replace g15 : v15 = .none := g15
        subst g15
        k_steps
        refine Held.mk ?_
        (rename News _ _ _ _ => N16)
        (rename Fr _ _ _ _ => F16)
        have sk16 := back12 _ F16.keep (fun p hp => N16 p (by first | exact List.mem_append_right [_, _, _, _, _, _, _] hp | exact List.mem_append_right [_, _, _, _, _, _, _, _] hp | exact List.mem_append_right [_, _, _, _, _, _, _, _, _] hp | exact List.mem_append_right [_, _, _, _, _, _, _, _, _, _] hp | exact List.mem_append_right [_, _, _, _, _, _, _, _, _, _, _] hp | exact List.mem_append_right [_, _, _, _, _, _, _, _, _, _, _, _] hp))
        refine pk_K (contains_ok (X0.keeps F16.keep) (T0.keeps F16.keep) rfl (by ktr_room) (News.get (a := xx) N16 (by k_mem)) (News.get (a := dd) N16 (by k_mem)) (News.get (a := rr) N16 (by k_mem)) (Rows.tk hrs2 sk16) hvs2 hol hTo.h2) F16 N16 ?_
        intro v17 h17 tk17 g17 kp17 F17 N17
        rw [hfr] at g17
        replace g17 : v17 = .bool false := g17
        subst g17
        (try clear N16); (try clear F16); (try clear sk16); (try clear kp17)
        k_steps
        refine Held.mk ?_
        (rename News _ _ _ _ => N18)
        (rename Fr _ _ _ _ => F18)
        refine pk_K (hint_ok (X0.keeps F18.keep) (T0.keeps F18.keep) rfl (by ktr_room) (News.get (a := xx) N18 (by k_mem)) (News.get (a := dd) N18 (by k_mem)) (News.get (a := rr) N18 (by k_mem)) hvs2) F18 N18 ?_
        intro v19 h19 tk19 g19 kp19 F19 N19
        obtain ⟨tk20, rfl⟩ := g19
        rw [hzl]
        (try clear N18); (try clear F18); (try clear kp19)
        k_steps
        refine Held.mk ?_
        (rename News _ _ _ _ => N20)
        (rename Fr _ _ _ _ => F20)
        have sk20 := back12 _ F20.keep (fun p hp => N20 p (by first | exact List.mem_append_right [_, _, _, _, _, _, _] hp | exact List.mem_append_right [_, _, _, _, _, _, _, _] hp | exact List.mem_append_right [_, _, _, _, _, _, _, _, _] hp | exact List.mem_append_right [_, _, _, _, _, _, _, _, _, _] hp | exact List.mem_append_right [_, _, _, _, _, _, _, _, _, _, _] hp | exact List.mem_append_right [_, _, _, _, _, _, _, _, _, _, _, _] hp))
        refine len_list (IsList.tk hkp2 sk20 hkr2) (by simp only [List.size_toArray]; omega) ?_
        k_steps
        (rename News _ _ _ _ => N22)
        (rename Fr _ _ _ _ => F22)
        have sk22 := back12 _ F22.keep (fun p hp => N22 p (by first | exact List.mem_append_right [_, _, _, _, _, _, _] hp | exact List.mem_append_right [_, _, _, _, _, _, _, _] hp | exact List.mem_append_right [_, _, _, _, _, _, _, _, _] hp | exact List.mem_append_right [_, _, _, _, _, _, _, _, _, _] hp | exact List.mem_append_right [_, _, _, _, _, _, _, _, _, _, _] hp | exact List.mem_append_right [_, _, _, _, _, _, _, _, _, _, _, _] hp))
        refine ⟨_, _, _, [(xx, _), (dd, _), (rr, _), (s1.heap.objs.size + 1 + 1, op), (s1.heap.objs.size + 1, _)], rfl, F22, ?n1, ?n2, ⟨vs2, n2, ks2, kp2, kvs2, _, _, rfl, hgc, ?m1, ?m2, ?m3, ?m4, IsList.tk hax sk22 hDr, Rows.tk hrs2 sk22, IsList.tk hkp2 sk22 hkr2, Ents.tk hks2 sk22, hkr2, ?le, hok2⟩⟩
        case n1 => exact fun p hp => N22 p (by first | exact List.mem_append_left (as := [_, _, _, _, _, _]) _ hp | exact List.mem_cons_of_mem _ (List.mem_append_left (as := [_, _, _, _, _, _]) _ hp) | exact List.mem_cons_of_mem _ (List.mem_cons_of_mem _ (List.mem_append_left (as := [_, _, _, _, _, _]) _ hp)) | exact List.mem_cons_of_mem _ (List.mem_cons_of_mem _ (List.mem_cons_of_mem _ (List.mem_append_left (as := [_, _, _, _, _, _]) _ hp))) | exact List.mem_cons_of_mem _ (List.mem_cons_of_mem _ (List.mem_cons_of_mem _ (List.mem_cons_of_mem _ (List.mem_append_left (as := [_, _, _, _, _, _]) _ hp)))))
        case n2 => (intro q hq; simp only [List.mem_cons, List.not_mem_nil, or_false] at hq; rcases hq with rfl | rfl | rfl | rfl | rfl <;> first | exact hI1 | exact hI2 | exact hI3 | exact hI4 | exact hI5)
        case m1 => ((try dsimp only); (repeat rw [if_neg (by decide)]); exact hm1)
        case m2 => ((try dsimp only); (repeat rw [if_neg (by decide)]); exact hm2)
        case m3 => ((try dsimp only); (repeat rw [if_neg (by decide)]); exact hm3)
        case m4 => ((try dsimp only); (repeat rw [if_neg (by decide)]); exact if_pos rfl)
        case le => omega
      | cons q0 ql =>
        rw [hfl] at hys g15 hfr
        cases hys with
        | cons hy1 hyr =>
          obtain ⟨ty, rfl⟩ := hy1
          obtain ⟨tq, rfl⟩ := (show ∃ t, v15 = .str (wr q0.th) t from g15)
          k_steps
          refine Held.mk ?_
          (rename News _ _ _ _ => N16)
          (rename Fr _ _ _ _ => F16)
          have sk16 := back12 _ F16.keep (fun p hp => N16 p (by first | exact List.mem_append_right [_, _, _, _, _, _, _] hp | exact List.mem_append_right [_, _, _, _, _, _, _, _] hp | exact List.mem_append_right [_, _, _, _, _, _, _, _, _] hp | exact List.mem_append_right [_, _, _, _, _, _, _, _, _, _] hp | exact List.mem_append_right [_, _, _, _, _, _, _, _, _, _, _] hp | exact List.mem_append_right [_, _, _, _, _, _, _, _, _, _, _, _] hp))
          refine pk_K (contains_ok (X0.keeps F16.keep) (T0.keeps F16.keep) rfl (by ktr_room) (News.get (a := xx) N16 (by k_mem)) (News.get (a := dd) N16 (by k_mem)) (News.get (a := rr) N16 (by k_mem)) (Rows.tk hrs2 sk16) hvs2 hol hTo.h2) F16 N16 ?_
          intro v17 h17 tk17 g17 kp17 F17 N17
          rw [hfr] at g17
          replace g17 : v17 = .bool true := g17
          subst g17
          (try clear N16); (try clear F16); (try clear sk16); (try clear kp17)
          k_steps
          refine Held.mk ?_
          (rename News _ _ _ _ => N18)
          (rename Fr _ _ _ _ => F18)
          refine pk_K (hint_ok (X0.keeps F18.keep) (T0.keeps F18.keep) rfl (by ktr_room) (News.get (a := xx) N18 (by k_mem)) (News.get (a := dd) N18 (by k_mem)) (News.get (a := rr) N18 (by k_mem)) hvs2) F18 N18 ?_
          intro v19 h19 tk19 g19 kp19 F19 N19
          obtain ⟨tk20, rfl⟩ := g19
          rw [hzl]
          (try clear N18); (try clear F18); (try clear kp19)
          k_steps
          refine Held.mk ?_
          (rename News _ _ _ _ => N20)
          (rename Fr _ _ _ _ => F20)
          have sk20 := back12 _ F20.keep (fun p hp => N20 p (by first | exact List.mem_append_right [_, _, _, _, _, _, _] hp | exact List.mem_append_right [_, _, _, _, _, _, _, _] hp | exact List.mem_append_right [_, _, _, _, _, _, _, _, _] hp | exact List.mem_append_right [_, _, _, _, _, _, _, _, _, _] hp | exact List.mem_append_right [_, _, _, _, _, _, _, _, _, _, _] hp | exact List.mem_append_right [_, _, _, _, _, _, _, _, _, _, _, _] hp))
          refine len_list (IsList.tk hkp2 sk20 hkr2) (by simp only [List.size_toArray]; omega) ?_
          k_steps
          (rename News _ _ _ _ => N22)
          (rename Fr _ _ _ _ => F22)
          have sk22 := back12 _ F22.keep (fun p hp => N22 p (by first | exact List.mem_append_right [_, _, _, _, _, _, _] hp | exact List.mem_append_right [_, _, _, _, _, _, _, _] hp | exact List.mem_append_right [_, _, _, _, _, _, _, _, _] hp | exact List.mem_append_right [_, _, _, _, _, _, _, _, _, _] hp | exact List.mem_append_right [_, _, _, _, _, _, _, _, _, _, _] hp | exact List.mem_append_right [_, _, _, _, _, _, _, _, _, _, _, _] hp))
          refine ⟨_, _, _, [(xx, _), (dd, _), (rr, _), (s1.heap.objs.size + 1 + 1, op), (s1.heap.objs.size + 1, _)], rfl, F22, ?n1, ?n2, ⟨vs2, n2, ks2, kp2, kvs2, _, _, rfl, hgc, ?m1, ?m2, ?m3, ?m4, IsList.tk hax sk22 hDr, Rows.tk hrs2 sk22, IsList.tk hkp2 sk22 hkr2, Ents.tk hks2 sk22, hkr2, ?le, hok2⟩⟩
          case n1 => exact fun p hp => N22 p (by first | exact List.mem_append_left (as := [_, _, _, _, _, _]) _ hp | exact List.mem_cons_of_mem _ (List.mem_append_left (as := [_, _, _, _, _, _]) _ hp) | exact List.mem_cons_of_mem _ (List.mem_cons_of_mem _ (List.mem_append_left (as := [_, _, _, _, _, _]) _ hp)) | exact List.mem_cons_of_mem _ (List.mem_cons_of_mem _ (List.mem_cons_of_mem _ (List.mem_append_left (as := [_, _, _, _, _, _]) _ hp))) | exact List.mem_cons_of_mem _ (List.mem_cons_of_mem _ (List.mem_cons_of_mem _ (List.mem_cons_of_mem _ (List.mem_append_left (as := [_, _, _, _, _, _]) _ hp)))))
          case n2 => (intro q hq; simp only [List.mem_cons, List.not_mem_nil, or_false] at hq; rcases hq with rfl | rfl | rfl | rfl | rfl <;> first | exact hI1 | exact hI2 | exact hI3 | exact hI4 | exact hI5)
          case m1 => ((try dsimp only); (repeat rw [if_neg (by decide)]); exact hm1)
          case m2 => ((try dsimp only); (repeat rw [if_neg (by decide)]); exact hm2)
          case m3 => ((try dsimp only); (repeat rw [if_neg (by decide)]); exact hm3)
          case m4 => ((try dsimp only); (repeat rw [if_neg (by decide)]); exact if_pos rfl)
          case le => omega

  case done =>
    intro m9 led9 h9 tk9 E9 hN9 hInv F9 N9
    obtain ⟨vs, n, ks, kp, kvs, og9, gv9, rfl, hog9, hm1, hm2, hm3, hm4, hax, hrs, hkp, hks, hkr, hkl, hok⟩ := hInv
    have hkl50 : ks.length ≤ 50 := by
      have e3 := hI.length
      have e4 : (List.take 8 w7).length ≤ 8 := by rw [List.length_take]; exact Nat.min_le_left _ _
      simp only [List.length_append, List.length_cons, List.length_nil] at e3
      omega
    have hvv : vs.length ≤ 100 := by
      have e1 := hrs.length
      simp only [List.length_map] at e1
      omega
    have hkv : kvs.length ≤ 100 := by
      have e1 := hks.length
      omega
    obtain ⟨tla, Na, hnea, backa⟩ := rebaseS F9 N9 (led5 hop hog9)
    simp only [List.cons_append, List.nil_append] at Na
    (try clear N9); (try clear N2); (try clear N1); (try clear F1); (try clear hax)
    k_steps
    -- items
    refine Held.mk ?_
    (rename News _ _ _ _ => Nb)
    (rename Fr _ _ _ _ => Fb)
    have skb := backa _ Fb.keep (fun p hp => Nb p (List.mem_append_right [_, _, _, _, _] hp))
    refine pk_K (items_ok (X0.keeps Fb.keep) (T0.keeps Fb.keep) rfl (by ktr_room) (News.get (a := xx) Nb (by k_mem)) (News.get (a := dd) Nb (by k_mem)) (News.get (a := rr) Nb (by k_mem)) hvv) Fb (fun p hp => Nb p (List.mem_append_left (as := [_, _, _, _, _]) tla hp)) ?_
    intro vc hc tkc gc kpc Fc Nc
    obtain ⟨ai, rfl, hai⟩ := gc
    have skc := skb.trans (SeqKeep.of kpc)
    replace hrs := Rows.tk hrs skc
    replace hks := Ents.tk hks skc
    replace hkp := IsList.tk hkp skc hkr
    obtain ⟨tld, Nd, hned, backd⟩ := rebaseS Fc Nc (led5 hop hog9)
    simp only [List.cons_append, List.nil_append] at Nd
    (try clear Nb); (try clear Fb); (try clear Nc); (try clear Na); (try clear hnea); (try clear backa); (try clear skb); (try clear skc); (try clear kpc); (try clear tla)
    k_steps
    refine Held.mk ?_
    (rename News _ _ _ _ => Ne)
    (rename Fr _ _ _ _ => Fe)
    (with_reducible refine' evalCompG (cl := []) (P := EntAt hc) (p := fun _ => true) (G := fun new y q => PairIn new y (row q)) (fun _ _ _ _ hs z => PairIn.mono hs z) ?h0 ?h1 ?h2 ?h3 ?h4 ?h5 ?_ ?h6); (case h0 => exact rfl); (case h1 => with_unfolding_all rfl); (case h2 => decide); (case h3 => with_unfolding_all rfl); (case h4 => decide); (case h5 => with_unfolding_all rfl); (case h6 => intro _; with_unfolding_all rfl)
    walk1
    refine ⟨kp, kvs, ks, rfl, hkp, hks, Nat.le_trans hkv (by decide), ?_, ?_, ?_⟩
    · intro C v q h3 tk3 m3 l3 E3 hC hP F3 hm N3
      (try clear qk); (try clear ek); (try clear qk0); (try clear ek0); (try clear lifted); (try clear Y); (try clear G); (try clear hcd); (try clear hDf); (try clear w1); (try clear ra0); (try clear r0); (try clear hr0); (try clear XP); (try clear V); (try clear BT); (try clear TE); (try clear TW); (try clear BM); (try clear GL); (try clear hsh0); (try clear hlay0); (try clear hL1); (try clear hr1); (try clear hl2); (try clear KX); (try clear X00); (try clear hcond1); (try clear hcond0); (try clear hL8); (try clear hC); (try clear hLs); (try clear hIs); (try clear ho1); (try clear hgens); (try clear hop); (try clear hDD); (try clear hkk); (try clear hI); (try clear hrs); (try clear hok); (try clear hm1); (try clear hm2); (try clear hm3); (try clear hm4); (try clear hned); (try clear backd); (try clear hai)
      k_steps
      exact ⟨_, _, [], rfl, by assumption, by assumption, fun _ h => (nomatch h), rfl⟩
    · intro C v q h3 tk3 m3 l3 E3 hC hP hp F3 hm N3
      obtain ⟨a3, u1, u2, u3, rfl, i3, t3, sh3⟩ := hP
      have X12 := X0.keeps Fe.keep
      have T12 := T0.keeps Fe.keep
      (try clear qk); (try clear ek); (try clear qk0); (try clear ek0); (try clear lifted); (try clear Y); (try clear G); (try clear hcd); (try clear hDf); (try clear w1); (try clear ra0); (try clear r0); (try clear hr0); (try clear XP); (try clear V); (try clear BT); (try clear TE); (try clear TW); (try clear BM); (try clear GL); (try clear hsh0); (try clear hlay0); (try clear hL1); (try clear hr1); (try clear hl2); (try clear KX); (try clear X00); (try clear hcond1); (try clear hcond0); (try clear hL8); (try clear hC); (try clear hLs); (try clear hIs); (try clear ho1); (try clear hgens); (try clear hop); (try clear hDD); (try clear hkk); (try clear hI); (try clear hrs); (try clear hok); (try clear hm1); (try clear hm2); (try clear hm3); (try clear hm4); (try clear hned); (try clear backd); (try clear hai)
      k_steps
      refine Held.mk ?_
      (rename News _ _ _ _ => N4)
      (rename Fr _ _ _ _ => F4)
      refine pk_K (written_ok (X12.keeps F4.keep) (T12.keeps F4.keep) rfl (by ktr_room) (ThAt.keeps t3 F4.keep) sh3) F4 N4 ?_
      intro v' h' tk' g' kp' F' N'
      obtain ⟨tk9, rfl⟩ := g'
      k_steps
      (rename News _ _ _ _ => N5)
      (rename Fr _ _ _ _ => F5)
      rename_i hlt5
      exact ⟨_, _, [(_, _)], rfl, F5, N5, fun q hq p hp => by rw [List.mem_singleton.mp hq]; exact Nat.ne_of_gt (hlt5 p hp), _, _, _, rfl, List.Mem.head _⟩
    · intro D hd1 tkd ys nd tlc hD hgD hkd htl hys
      have F13 := Fe.keeps hkd
      have N13 := News.addK Fe Ne hkd hD hgD
      rw [List.filter_eq_self.mpr (fun _ _ => rfl)] at hys
      replace hys : PySem.Paired (PairIn tlc) ys (ks.map row) := paired_map hys
      refine ne_lists (hai.at fun o q => hkd _ _ q) ⟨_, hgD, rfl, nd, rfl⟩ (by ktr_units) (pairs_eq (by ktr_units) (fun q hq => (htl q hq).1) (hrs.keeps hkd) hys) ?_
      (try clear Ne); (try clear Fe); (try clear hkd); (try clear htl); (try clear hys)
      k_steps
      refine Held.mk ?_
      have ph : Phase2 1 := trivial
      have hmod0 := fm_lo w7.sum (b := 4) (by decide)
      have hmod1 := fm_hi w7.sum (b := 4) (by decide)
      refine wpAny_with_toks (n := 1) (by (try dsimp only); omega) ?_
      walk1
      intro hk1
      generalize Int.fmod w7.sum 4 = tn at hmod0 hmod1 ⊢
      refine gen_toks ph hk1 (fun kw hkw => ?_)
      dsimp only
      walk1
      walk1
      walk1
      walk1
      (rename News _ _ _ _ => Nh)
      (rename Fr _ _ _ _ => Fh)
      refine wishCut (s1.heap.objs.size + 1 + 1) rr Fh Nh ?hw (fun vW sW hq => ?hrest)
      case hw =>
        have hc : tn = 0 ∨ tn = 1 ∨ tn = 2 ∨ tn = 3 := by omega
        rcases hc with rfl | rfl | rfl | rfl
        · k_steps
          (rename News _ _ _ _ => N9)
          (rename Fr _ _ _ _ => F9)
          exact wish_end (wish := [en, de, nt, none]) F9 (N9 _ (List.Mem.head _)).1 (N9 _ (List.Mem.head _)).2.1 (N9 _ (List.Mem.head _)).2.2 (fun p hp => N9 p (by first | exact List.mem_of_mem_drop (i := 2) hp | exact List.mem_of_mem_drop (i := 3) hp | exact List.mem_of_mem_drop (i := 4) hp | exact List.mem_of_mem_drop (i := 5) hp | exact List.mem_of_mem_drop (i := 6) hp | exact List.mem_of_mem_drop (i := 7) hp | exact List.mem_of_mem_drop (i := 8) hp)) (.cons (ohi_str (by (try dsimp only); omega) (by (try dsimp only); omega)) (.cons (ohi_str (by (try dsimp only); omega) (by (try dsimp only); omega)) (.cons (ohi_str (by (try dsimp only); omega) (by (try dsimp only); omega)) (.cons ohi_none (.nil))))) (by decide) (by k_ne) (by k_ne)
        · k_steps
          (rename News _ _ _ _ => N9)
          (rename Fr _ _ _ _ => F9)
          exact wish_end (wish := [de, nt, none, en]) F9 (N9 _ (List.Mem.head _)).1 (N9 _ (List.Mem.head _)).2.1 (N9 _ (List.Mem.head _)).2.2 (fun p hp => N9 p (by first | exact List.mem_of_mem_drop (i := 2) hp | exact List.mem_of_mem_drop (i := 3) hp | exact List.mem_of_mem_drop (i := 4) hp | exact List.mem_of_mem_drop (i := 5) hp | exact List.mem_of_mem_drop (i := 6) hp | exact List.mem_of_mem_drop (i := 7) hp | exact List.mem_of_mem_drop (i := 8) hp)) (.cons (ohi_str (by (try dsimp only); omega) (by (try dsimp only); omega)) (.cons (ohi_str (by (try dsimp only); omega) (by (try dsimp only); omega)) (.cons ohi_none (.cons (ohi_str (by (try dsimp only); omega) (by (try dsimp only); omega)) (.nil))))) (by decide) (by k_ne) (by k_ne)
        · k_steps
          (rename News _ _ _ _ => N9)
          (rename Fr _ _ _ _ => F9)
          exact wish_end (wish := [nt, none, en, de]) F9 (N9 _ (List.Mem.head _)).1 (N9 _ (List.Mem.head _)).2.1 (N9 _ (List.Mem.head _)).2.2 (fun p hp => N9 p (by first | exact List.mem_of_mem_drop (i := 2) hp | exact List.mem_of_mem_drop (i := 3) hp | exact List.mem_of_mem_drop (i := 4) hp | exact List.mem_of_mem_drop (i := 5) hp | exact List.mem_of_mem_drop (i := 6) hp | exact List.mem_of_mem_drop (i := 7) hp | exact List.mem_of_mem_drop (i := 8) hp)) (.cons (ohi_str (by (try dsimp only); omega) (by (try dsimp only); omega)) (.cons ohi_none (.cons (ohi_str (by (try dsimp only); omega) (by (try dsimp only); omega)) (.cons (ohi_str (by (try dsimp only); omega) (by (try dsimp only); omega)) (.nil))))) (by decide) (by k_ne) (by k_ne)
        · k_steps
          (rename News _ _ _ _ => N9)
          (rename Fr _ _ _ _ => F9)
          exact wish_end (wish := [none, en, de, nt]) F9 (N9 _ (List.Mem.head _)).1 (N9 _ (List.Mem.head _)).2.1 (N9 _ (List.Mem.head _)).2.2 (fun p hp => N9 p (by first | exact List.mem_of_mem_drop (i := 2) hp | exact List.mem_of_mem_drop (i := 3) hp | exact List.mem_of_mem_drop (i := 4) hp | exact List.mem_of_mem_drop (i := 5) hp | exact List.mem_of_mem_drop (i := 6) hp | exact List.mem_of_mem_drop (i := 7) hp | exact List.mem_of_mem_drop (i := 8) hp)) (.cons ohi_none (.cons (ohi_str (by (try dsimp only); omega) (by (try dsimp only); omega)) (.cons (ohi_str (by (try dsimp only); omega) (by (try dsimp only); omega)) (.cons (ohi_str (by (try dsimp only); omega) (by (try dsimp only); omega)) (.nil))))) (by decide) (by k_ne) (by k_ne)
      case hrest =>
        obtain ⟨wl, nw, ws, wish, hW, tkW, rfl, rfl, FW, NW, hWs, hWm, hwc, hwr⟩ := hq
        (try clear Nh); (try clear Fh); (try clear ph)
        have ph : Phase2 tkW := trivial
        refine storeX_L FW NW (fun hX FX NX => ?_) rfl rfl
        dsimp only
        walk1
        walk1
        (rename News _ _ _ _ => NF)
        (rename Fr _ _ _ _ => FF)
        k_dflt (refine' forR3 ?hh FF ?_ ?hs; (case hh => rfl); (case hs => intro _; rfl))
        k_steps
        refine Held.mk ?_
        (rename News _ _ _ _ => NG0)
        (rename Fr _ _ _ _ => FG0)
        refine range3_K FG0 NG0 (fun hG rG tG uG vG oG FG NG hrG => ?_)
        have skG := backd _ FG.keep (fun p hp => NG p (List.mem_append_right [_, _, _, _, _, _, _] hp))
        have hwlG := News.get (a := wl) NG (by k_mem)
        refine ⟨_, _, _, _, rfl, hrG, _, _, tkW, PInv _ _ xx dd rr (s1.heap.objs.size + 1 + 1) (s1.heap.objs.size + 1) wl og9 vs n kp kvs ks ws nw, ?hN, FG, (fun p hp => NG p (List.mem_cons_of_mem _ (List.mem_cons_of_mem _ (List.mem_append_left (as := [_, _, _, _, _]) tld hp)))), ⟨op, _, rfl, hop, ?m1, ?m2, ?m3, Rows.tk hrs skG, IsList.tk hkp skG hkr, Ents.tk hks skG, hwlG⟩, fun _ _ _ _ _ q k => PInv.st q k, ?turnP, ?doneP⟩
        case hN => (try dsimp only); omega
        case m1 => (try dsimp only); (repeat rw [if_neg (by decide)]); exact hm3
        case m2 => (try dsimp only); (repeat rw [if_neg (by decide)]); exact hm4
        case m3 => (try dsimp only); (repeat rw [if_neg (by decide)]); exact if_pos rfl
        case doneP =>
          intro m7 led7 h7 tk7 E7 hN7 hInv7 F7 N7
          k_steps
        case turnP =>
          intro I i m5 led5 h5 t5 tk5 oI5 E5 hN5 hi5 hInv5 F5 N5 hoff5 hIc5
          obtain ⟨op5, pv5, rfl, hop5, pm1, pm2, pm3, hrs5, hkp5, hks5, hwl5⟩ := hInv5
          obtain ⟨tlp, Np, hnep, backp⟩ := rebaseS F5 N5 (led6R hIc5 hop5 hog9)
          simp only [List.cons_append, List.nil_append] at Np
          have hcpp := hnep _ (List.Mem.tail _ (List.Mem.tail _ (List.Mem.tail _ (List.Mem.tail _ (List.Mem.head _)))))
          dsimp only at hcpp
          have hJ1 : @Ne Nat xx I := hoff5 _ (List.Mem.head _)
          have hJ2 : @Ne Nat dd I := hoff5 _ (List.Mem.tail _ (List.Mem.head _))
          have hJ3 : @Ne Nat rr I := hoff5 _ (List.Mem.tail _ (List.Mem.tail _ (List.Mem.head _)))
          have hJ4 : @Ne Nat (s1.heap.objs.size + 1 + 1) I := hoff5 _ (List.Mem.tail _ (List.Mem.tail _ (List.Mem.tail _ (List.Mem.head _))))
          have hJ5 : @Ne Nat (s1.heap.objs.size + 1) I := hoff5 _ (List.Mem.tail _ (List.Mem.tail _ (List.Mem.tail _ (List.Mem.tail _ (List.Mem.head _)))))
          (try clear N5); (try clear NG); (try clear FG); (try clear NG0); (try clear FG0); (try clear skG); (try clear hned); (try clear backd); (try clear NF); (try clear FF); (try clear hrs); (try clear hks); (try clear hkp); (try clear hm1); (try clear hm2); (try clear hm3); (try clear hm4); (try clear NX); (try clear FX); (try clear NW); (try clear FW)
          have hi5' : (i : Int) < 3 := by omega
          have hi50 : (0 : Int) ≤ (i : Int) := by omega
          k_steps
          -- things
          refine Held.mk ?_
          (rename News _ _ _ _ => Nq)
          (rename Fr _ _ _ _ => Fq)
          (rename Heap => hq9)
          (rename Obj.data _ = Data.cell (some _) => hpc)
          have skq := backp _ Fq.keep (fun p hp => Nq p (List.mem_append_right [_, _, _, _, _, _] hp))
          have hksq := Ents.tk hks5 skq
          have hkpq := IsList.tk hkp5 skq hkr
          have hcpq := News.get (a := s1.heap.objs.size + 1 + 1) Nq (by k_mem)
          refine wpAny_with_toks (n := tkW) (by (try dsimp only); omega) ?_
          (with_reducible refine' assignCompG (cl := [(Str.ofString "place", s1.heap.objs.size + 1 + 1)]) (P := fun v e => EntAt h5 v e ∧ EntAt hq9 v e) (p := fun q => decide (q.g = (i : Int))) (G := fun _ y q => ThAt h5 y q.th ∧ q.th.short) (fun _ _ _ _ _ z => z) ?h0 ?hsw ?h1 ?h2 ?h3 ?h4 ?h5 ?hy ?hp ?_ ?h6); (case h0 => exact rfl); (case hsw => with_unfolding_all rfl); (case h1 => with_unfolding_all rfl); (case h2 => decide); (case h3 => with_unfolding_all rfl); (case h4 => decide); (case h5 => with_unfolding_all rfl); (case hy => with_unfolding_all rfl); (case hp => with_unfolding_all rfl); (case h6 => intro _; with_unfolding_all rfl)
          walk1
          refine ⟨kp, kvs, ks, _, rfl, hkpq, PySem.Paired.mono (fun _ _ y => ⟨y, EntAt.tk y skq⟩) hks5, Nat.le_trans hkv (by decide), Fq.ns, ?_, ?_, ?_⟩
          · intro C v q h3 tk3 m3 l3 E3 hC hP F3 hm N3
            obtain ⟨_, a3, u1, u2, u3, rfl, i3, _⟩ := hP
            (try clear qk); (try clear ek); (try clear qk0); (try clear ek0); (try clear lifted); (try clear Y); (try clear G); (try clear hcd); (try clear hDf); (try clear w1); (try clear ra0); (try clear r0); (try clear hr0); (try clear XP); (try clear V); (try clear BT); (try clear TE); (try clear TW); (try clear BM); (try clear GL); (try clear hsh0); (try clear hlay0); (try clear hL1); (try clear hr1); (try clear hl2); (try clear KX); (try clear X00); (try clear hcond1); (try clear hcond0); (try clear hL8); (try clear hC); (try clear hLs); (try clear hIs); (try clear ho1); (try clear hgens); (try clear hop); (try clear hDD); (try clear hkk); (try clear hI); (try clear hok); (try clear pm1); (try clear pm2); (try clear pm3); (try clear hai); (try clear backp); (try clear hnep); (try clear hrs5); (try clear ph)
            refine wpAny_tests_one ?_
            k_steps
            exact ⟨_, _, [], rfl, by assumption, by assumption, fun _ h => (nomatch h), by first | rfl | simp⟩
          · intro C v q h3 tk3 m3 l3 E3 hC hP hp F3 hm N3
            obtain ⟨⟨a4, w1', w2', w3', e4, i4, t4, sh4⟩, a3, u1, u2, u3, rfl, i3, t3, sh3⟩ := hP
            cases e4
            have e5 : w3' = u3 := by
              have i4' := IsTup.tk i4 skq
              obtain ⟨o1', q1, _, n1, d1⟩ := i3
              obtain ⟨o2', q2, _, n2, d2⟩ := i4'
              rw [q1] at q2
              cases q2
              rw [d1] at d2
              cases d2
              rfl
            subst e5
            (try clear qk); (try clear ek); (try clear qk0); (try clear ek0); (try clear lifted); (try clear Y); (try clear G); (try clear hcd); (try clear hDf); (try clear w1); (try clear ra0); (try clear r0); (try clear hr0); (try clear XP); (try clear V); (try clear BT); (try clear TE); (try clear TW); (try clear BM); (try clear GL); (try clear hsh0); (try clear hlay0); (try clear hL1); (try clear hr1); (try clear hl2); (try clear KX); (try clear X00); (try clear hcond1); (try clear hcond0); (try clear hL8); (try clear hC); (try clear hLs); (try clear hIs); (try clear ho1); (try clear hgens); (try clear hop); (try clear hDD); (try clear hkk); (try clear hI); (try clear hok); (try clear pm1); (try clear pm2); (try clear pm3); (try clear hai); (try clear backp); (try clear hnep); (try clear hrs5); (try clear ph)
            k_steps
            exact ⟨_, _, [], rfl, by assumption, by assumption, fun _ h => (nomatch h), t4, sh4⟩
          · intro D1 hd1 tkd1 ys1 nd1 tld1 hD1 hgD1 hns1 hkd1 htl1 hys1 hNd1
            have Fr1 := Fr.keepL Fq hns1 hkd1
            have Nr1 := News.addL Fq Nq hkd1 hD1 hgD1
            (try clear hkd1); (try clear hns1); (try clear Fq); (try clear Nq); (try clear htl1)
            k_steps
            -- told
            refine Held.mk ?_
            have hnd1 : tkW ≤ tkd1 := hNd1
            (with_reducible refine' assignCompT (N := tkW) (cl := []) (P := fun v (q : Ent) => StrV v (wr q.th) ∧ Ok q) (p := fun _ => true) (G := fun new y q => BackIn tkW new y q.th) (fun _ _ _ _ hs z => BackIn.mono hs z) ?h0 ?hsw ?h1 ?h2 ?h3 ?h4 ?h5 ?hy ?hp ?_ ?h6); (case h0 => exact rfl); (case hsw => with_unfolding_all rfl); (case h1 => with_unfolding_all rfl); (case h2 => decide); (case h3 => with_unfolding_all rfl); (case h4 => decide); (case h5 => with_unfolding_all rfl); (case hy => with_unfolding_all rfl); (case hp => with_unfolding_all rfl); (case h6 => intro _; with_unfolding_all rfl)
            k_steps
            refine Held.mk ?_
            (rename News _ _ _ _ => Ns1)
            (rename Fr _ _ _ _ => Fs1)
            refine pk_KT (show Phase2 tkW from trivial) (by (try dsimp only); omega) (title_ok (X0.keeps Fs1.keep) (T0.keeps Fs1.keep) rfl (by ktr_room) hi50 hi5') Fs1 Ns1 ?_
            intro vt ht tkt hNt gt kpt Ft Nt1
            obtain ⟨tkt2, rfl⟩ := gt
            k_steps
            refine Held.mk ?_
            (rename News _ _ _ _ => Nu)
            (rename Fr _ _ _ _ => Fu)
            have sku := backp _ Fu.keep (fun p hp => Nu p (by first | exact List.mem_append_right [_, _, _, _, _, _] hp | exact List.mem_append_right [_, _, _, _, _, _, _] hp | exact List.mem_append_right [_, _, _, _, _, _, _, _] hp | exact List.mem_append_right [_, _, _, _, _, _, _, _, _] hp))
            have hTp : OkTi (i : Int) 1 := .of hi50 hi5' (by decide) (by decide)
            refine pk_KT (show Phase2 tkW from trivial) (by (try dsimp only); omega) (getall_ok (X0.keeps Fu.keep) (T0.keeps Fu.keep) (by ktr_room) rfl (News.get (a := xx) Nu (by k_mem)) (News.get (a := dd) Nu (by k_mem)) (News.get (a := rr) Nu (by k_mem)) (Rows.tk hrs5 sku) hvv (Nat.le_trans hTp.len (by decide)) hTp.h2) Fu Nu ?_
            intro vg hg tkg hNg gg kpg Fg1 Ng1
            obtain ⟨ag, us, rfl, hag, hus⟩ := gg
            rw [filter_row hok hi50 hi5' hTp.low] at hus
            refine ⟨ag, us, ks.filter (fun e => decide (e.g = (i : Int))), _, rfl, hNg, hag, ?pp, ?sz, Fg1.ns, ?t1, ?t2, ?t3⟩
            case sz => (have e1 := hus.length; have e2 : (ks.filter fun e => decide (e.g = (i : Int))).length ≤ ks.length := List.length_filter_le _ _; simp only [List.length_map] at e1; simp only [sizeLine_eq]; omega)
            case pp => exact PySem.Paired.mono (fun _ _ z => ⟨z.1, hok _ (List.mem_filter.mp z.2).1⟩) (paired_mem (paired_unmap hus))
            case t1 =>
              intro C v q h3 tk3 m3 l3 E3 hnt hC hP F3 hm N3
              (try clear qk); (try clear ek); (try clear qk0); (try clear ek0); (try clear lifted); (try clear Y); (try clear G); (try clear hcd); (try clear hDf); (try clear w1); (try clear ra0); (try clear r0); (try clear hr0); (try clear XP); (try clear V); (try clear BT); (try clear TE); (try clear TW); (try clear BM); (try clear GL); (try clear hsh0); (try clear hlay0); (try clear hL1); (try clear hr1); (try clear hl2); (try clear KX); (try clear X00); (try clear hcond1); (try clear hcond0); (try clear hL8); (try clear hC); (try clear hLs); (try clear hIs); (try clear ho1); (try clear hgens); (try clear hop); (try clear hDD); (try clear hkk); (try clear hI); (try clear hok); (try clear pm1); (try clear pm2); (try clear pm3); (try clear hai); (try clear backp); (try clear hnep); (try clear hrs5)
              k_steps
              exact ⟨_, _, [], rfl, by assumption, by assumption, fun _ h => (nomatch h), rfl⟩
            case t2 =>
              intro C v q h3 tk3 m3 l3 E3 hnt hC hP hp F3 hm N3
              obtain ⟨⟨tkv, rfl⟩, hqok⟩ := hP
              have X12 := X0.keeps Fg1.keep
              have T12 := T0.keeps Fg1.keep
              have hqt := OkTh.of hqok.2.2.2
              (try clear qk); (try clear ek); (try clear qk0); (try clear ek0); (try clear lifted); (try clear Y); (try clear G); (try clear hcd); (try clear hDf); (try clear w1); (try clear ra0); (try clear r0); (try clear hr0); (try clear XP); (try clear V); (try clear BT); (try clear TE); (try clear TW); (try clear BM); (try clear GL); (try clear hsh0); (try clear hlay0); (try clear hL1); (try clear hr1); (try clear hl2); (try clear KX); (try clear X00); (try clear hcond1); (try clear hcond0); (try clear hL8); (try clear hC); (try clear hLs); (try clear hIs); (try clear ho1); (try clear hgens); (try clear hop); (try clear hDD); (try clear hkk); (try clear hI); (try clear hok); (try clear pm1); (try clear pm2); (try clear pm3); (try clear hai); (try clear backp); (try clear hnep); (try clear hrs5)
              k_steps
              refine Held.mk ?_
              (rename News _ _ _ _ => N4)
              (rename Fr _ _ _ _ => F4)
              refine pk_KT (show Phase2 tkW from trivial) hnt (dec_ok (N := tkW) (X12.keeps F4.keep) (T12.keeps F4.keep) (by ktr_room) hqt.len hqt.split hnt) F4 N4 ?_
              intro vd hd9 tkd9 hNd gd kpd Fd Nd4
              obtain ⟨ad, od, rfl, hod, hof, hob⟩ := gd
              have hNn : ∀ p ∈ l3, ad ≠ p.1 := fun p hp e => by
                have := (N4 p hp).1
                rw [← e, hof] at this
                cases this
              exact ⟨_, _, [(ad, od)], rfl, Fd, fun p hp => by
                rcases List.mem_cons.mp hp with rfl | hp
                · refine ⟨hod, ?_, ?_⟩
                  · rintro rfl
                    obtain ⟨oL, _, _, hL, _⟩ := F4.ns
                    rw [hof] at hL
                    cases hL
                  · exact none_of F4.keep hof
                · exact Nd4 p hp, fun q hq p hp => by rw [List.mem_singleton.mp hq]; exact hNn p hp, ad, od, rfl, List.Mem.head _, hob⟩
            case t3 =>
              intro D2 hd2 tkd2 ys2 nd2 tld2 hD2 hgD2 hns2 hkd2 htl2 hys2
              have Fr2 := Fr.keepL Fg1 hns2 hkd2
              have Nr2 := News.addL Fg1 Ng1 hkd2 hD2 hgD2
              rw [List.filter_eq_self.mpr (fun _ _ => rfl)] at hys2
              k_steps
              refine Held.mk ?_
              (rename News _ _ _ _ => Nw2)
              (rename Fr _ _ _ _ => Fw2)
              have skz := backp _ Fw2.keep (fun p hp => Nw2 p (by first | exact List.mem_append_right [_, _, _, _, _, _] hp | exact List.mem_append_right [_, _, _, _, _, _, _] hp | exact List.mem_append_right [_, _, _, _, _, _, _, _] hp | exact List.mem_append_right [_, _, _, _, _, _, _, _, _] hp))
              (with_reducible refine' evalCompG (cl := []) (P := fun v (q : Ent) => ThAt hd2 v q.th ∧ q.th.short) (p := fun _ => true) (G := fun new y q => WantIn hd2 new y q.th) (fun _ _ _ _ hs z => WantIn.mono hs z) ?h0 ?h1 ?h2 ?h3 ?h4 ?h5 ?_ ?h6); (case h0 => exact rfl); (case h1 => with_unfolding_all rfl); (case h2 => decide); (case h3 => with_unfolding_all rfl); (case h4 => decide); (case h5 => with_unfolding_all rfl); (case h6 => intro _; with_unfolding_all rfl)
              walk1
              refine ⟨D1, ys1, ks.filter (fun e => decide (e.g = (i : Int))), rfl, led_list Nw2 (by k_mem), PySem.Paired.mono (fun _ _ z => ⟨ThAt.tk z.1 skz, z.2⟩) hys1, ?sz2, ?t4, ?t5, ?t6⟩
              case sz2 => (have e1 := hys1.length; have e2 : (ks.filter fun e => decide (e.g = (i : Int))).length ≤ ks.length := List.length_filter_le _ _; simp only [sizeLine_eq]; omega)
              case t4 =>
                intro C v q h3 tk3 m3 l3 E3 hC hP F3 hm N3
                (try clear qk); (try clear ek); (try clear qk0); (try clear ek0); (try clear lifted); (try clear Y); (try clear G); (try clear hcd); (try clear hDf); (try clear w1); (try clear ra0); (try clear r0); (try clear hr0); (try clear XP); (try clear V); (try clear BT); (try clear TE); (try clear TW); (try clear BM); (try clear GL); (try clear hsh0); (try clear hlay0); (try clear hL1); (try clear hr1); (try clear hl2); (try clear KX); (try clear X00); (try clear hcond1); (try clear hcond0); (try clear hL8); (try clear hC); (try clear hLs); (try clear hIs); (try clear ho1); (try clear hgens); (try clear hop); (try clear hDD); (try clear hkk); (try clear hI); (try clear hok); (try clear pm1); (try clear pm2); (try clear pm3); (try clear hai); (try clear backp); (try clear hnep); (try clear hrs5)
                k_steps
                exact ⟨_, _, [], rfl, by assumption, by assumption, fun _ h => (nomatch h), rfl⟩
              case t5 =>
                intro C v q h3 tk3 m3 l3 E3 hC hP hp F3 hm N3
                obtain ⟨⟨a, rfl, hP⟩, hqs⟩ := hP
                have X12 := X0.keeps Fw2.keep
                have T12 := T0.keeps Fw2.keep
                (try clear qk); (try clear ek); (try clear qk0); (try clear ek0); (try clear lifted); (try clear Y); (try clear G); (try clear hcd); (try clear hDf); (try clear w1); (try clear ra0); (try clear r0); (try clear hr0); (try clear XP); (try clear V); (try clear BT); (try clear TE); (try clear TW); (try clear BM); (try clear GL); (try clear hsh0); (try clear hlay0); (try clear hL1); (try clear hr1); (try clear hl2); (try clear KX); (try clear X00); (try clear hcond1); (try clear hcond0); (try clear hL8); (try clear hC); (try clear hLs); (try clear hIs); (try clear ho1); (try clear hgens); (try clear hop); (try clear hDD); (try clear hkk); (try clear hI); (try clear hok); (try clear pm1); (try clear pm2); (try clear pm3); (try clear hai); (try clear backp); (try clear hnep); (try clear hrs5)
                cases hq : q.th.head with
                | none =>
                  rw [hq] at hP
                  obtain ⟨t1, i5⟩ := hP
                  k_steps
                  exact ⟨_, _, [], rfl, by assumption, by assumption, fun _ h => (nomatch h), by unfold WantIn; rw [hq]; exact ⟨a, rfl, by rw [hq]; exact ⟨t1, i5⟩⟩⟩
                | some p =>
                  rw [hq] at hP
                  obtain ⟨t1, t2, t3, i5⟩ := hP
                  k_steps
                  (rename News _ _ _ _ => Nt5)
                  (rename Fr _ _ _ _ => Ft5)
                  rename_i hlt5
                  exact ⟨_, _, [(_, _)], rfl, Ft5, Nt5, fun q hq p hp => by rw [List.mem_singleton.mp hq]; exact Nat.ne_of_gt (hlt5 p hp), by unfold WantIn; rw [hq]; exact ⟨_, t1, t2, t3, _, rfl, List.Mem.head _⟩⟩
              case t6 =>
                intro D3 hd3 tkd3 ys3 nd3 tld3 hD3 hgD3 hkd3 htl3 hys3
                have Fr3 := Fw2.keeps hkd3
                have Nr3 := News.addK Fw2 Nw2 hkd3 hD3 hgD3
                rw [List.filter_eq_self.mpr (fun _ _ => rfl)] at hys3
                have hbk : PySem.Paired (BackT tkW hd3) ys2 ((ks.filter (fun e => decide (e.g = (i : Int)))).map Ent.th) := paired_map (PySem.Paired.mono (fun _ _ z => BackT.keeps (BackIn.at z (fun q hq => (htl2 q hq).1)) hkd3) hys2)
                have hwt : PySem.Paired (WantIn hd2 tld3) ys3 ((ks.filter (fun e => decide (e.g = (i : Int)))).map Ent.th) := paired_map hys3
                refine ne_lists (led_list Nr3 (List.Mem.tail _ (List.Mem.head _))) (led_list Nr3 (List.Mem.head _)) (by ktr_units) (backs_want (by ktr_units) hkd3 (fun q hq => (htl3 q hq).1) hbk hwt) ?_
                k_steps
                refine Held.mk ?_
                (rename News _ _ _ _ => Nx)
                (rename Fr _ _ _ _ => Fx)
                have skx := backp _ Fx.keep (fun p hp => Nx p (by first | exact List.mem_append_right [_, _, _, _, _, _] hp | exact List.mem_append_right [_, _, _, _, _, _, _] hp | exact List.mem_append_right [_, _, _, _, _, _, _, _] hp | exact List.mem_append_right [_, _, _, _, _, _, _, _, _] hp | exact List.mem_append_right [_, _, _, _, _, _, _, _, _, _] hp))
                have hwlx := skx wl _ _ _ hwl5 rfl (.inr ⟨rfl, hwr⟩)
                have hfl : (ks.filter fun e => decide (e.g = (i : Int))).length ≤ ks.length := List.length_filter_le _ _
                have hul : ys2.length ≤ 200 := by
                  have e1 := hys2.length
                  omega
                refine pk_K (chosen_ok (X0.keeps Fx.keep) (T0.keeps Fx.keep) rfl (by ktr_room) (led_list Nx (List.Mem.tail _ (List.Mem.head _))) hbk hul ⟨_, hwlx, rfl, nw, rfl⟩ hWs) Fx Nx ?_
                intro vch hch tkch gch kpch Fch Nch
                k_steps
                refine Held.mk ?_
                (rename News _ _ _ _ => Ny)
                (rename Fr _ _ _ _ => Fy)
                have sky := backp _ Fy.keep (fun p hp => Ny p (by first | exact List.mem_append_right [_, _, _, _, _, _] hp | exact List.mem_append_right [_, _, _, _, _, _, _] hp | exact List.mem_append_right [_, _, _, _, _, _, _, _] hp | exact List.mem_append_right [_, _, _, _, _, _, _, _, _] hp | exact List.mem_append_right [_, _, _, _, _, _, _, _, _, _] hp))
                have hwly := sky wl _ _ _ hwl5 rfl (.inr ⟨rfl, hwr⟩)
                have hth : PySem.Paired (ThAt hch) ys1 ((ks.filter (fun e => decide (e.g = (i : Int)))).map Ent.th) := paired_map (PySem.Paired.mono (fun _ _ z => ThAt.tk z.1 sky) hys1)
                have hul1 : ys1.length ≤ 200 := by
                  have e1 := hys1.length
                  omega
                have htw : ∀ t ∈ (ks.filter (fun e => decide (e.g = (i : Int)))).map Ent.th, tongueOf t ∈ wished := fun t ht => by
                  obtain ⟨e, he, rfl⟩ := List.mem_map.mp ht
                  exact (OkTh.of (hok e (List.mem_filter.mp he).1).2.2.2).mem
                have hws2 : ws.length ≤ 1000 := by
                  have e1 := hWs.length
                  rcases mem_wishes hWm with rfl | rfl | rfl | rfl <;> (simp at e1; omega)
                refine pk_K (best_ok (X0.keeps Fy.keep) (T0.keeps Fy.keep) rfl (by ktr_room) (by ktr_units) (led_list Ny (List.Mem.tail _ (List.Mem.tail _ (List.Mem.head _)))) hth hul1 hwly hWs hws2 (fun t ht => wish_all hWm (htw t ht))) Fy Ny ?_
                intro vbe hbe tkbe gbe kpbe Fbe Nbe
                obtain ⟨rb, hpb, hib⟩ := gbe
                have hrb := best_chosen hWm htw hib
                subst hrb
                refine pair_ne (PairAt.keeps gch kpbe) hpb (by ktr_units) ?_
                k_steps
                (rename News _ _ _ _ => Nz)
                (rename Fr _ _ _ _ => Fz)
                have ske := backp _ Fz.keep (fun p hp => Nz p (by first | exact List.mem_append_right [_, _, _, _, _, _] hp | exact List.mem_append_right [_, _, _, _, _, _, _] hp | exact List.mem_append_right [_, _, _, _, _, _, _, _] hp | exact List.mem_append_right [_, _, _, _, _, _, _, _, _] hp | exact List.mem_append_right [_, _, _, _, _, _, _, _, _, _] hp))
                refine ⟨_, _, _, [(xx, _), (dd, _), (rr, _), (s1.heap.objs.size + 1 + 1, _), (s1.heap.objs.size + 1, og9)], rfl, Fz, ?n1, ?n2, ⟨_, _, rfl, hpc, ?e1, ?e2, ?e3, Rows.tk hrs5 ske, IsList.tk hkp5 ske hkr, Ents.tk hks5 ske, ske wl _ _ _ hwl5 rfl (.inr ⟨rfl, hwr⟩)⟩⟩
                case n1 => exact fun p hp => Nz p (List.mem_cons_of_mem _ (List.mem_cons_of_mem _ (List.mem_cons_of_mem _ (List.mem_append_left (as := [_, _, _, _, _, _]) _ hp))))
                case n2 => (intro q hq; simp only [List.mem_cons, List.not_mem_nil, or_false] at hq; rcases hq with rfl | rfl | rfl | rfl | rfl <;> first | exact hJ1 | exact hJ2 | exact hJ3 | exact hJ4 | exact hJ5)
                case e1 => ((try dsimp only); (repeat rw [if_neg (by decide)]); exact pm1)
                case e2 => ((try dsimp only); (repeat rw [if_neg (by decide)]); exact pm2)
                case e3 => ((try dsimp only); (repeat rw [if_neg (by decide)]); exact pm3))
end
end
end
end
end Mine

set_option maxRecDepth 100000 in
set_option maxHeartbeats 8000000 in
theorem PySem.Challenge.cw_wf0067_01_holds : PySem.Challenge.rw_wf0067_01.Holds := by
  exact Mine.law_holds
