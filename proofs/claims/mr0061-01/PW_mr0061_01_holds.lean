import PyProof.Rows.All
import Wide.All
import OpenK.AllK
import Wide.FinOn
import Lean
import PySem.Challenge.RW_mr0061_01
set_option maxRecDepth 100000
set_option Elab.async false
set_option linter.unusedVariables false
set_option rowWalk.seconds 0
namespace Mine
open PySem PySem.W PyProof.Rows
set_option maxHeartbeats 8000000 in
open_top hd for PySem.Challenge.rw_mr0061_01
end Mine

-- part C0
namespace Mine
open PySem PySem.W PySem.Spec PySem.Calls PyProof.Rows

/-- from any state whose heap grew out of h, c ends in a value that Out tells, and all that stood stays -/
noncomputable def Tr (w : World) (p : Program) (loose : List Str) (mean : ExcName → Option Value) (mg mb : Str → Option Value) (D : Nat) (c : Sem Value) (h : Heap) (Out : Heap → Heap → Value → Prop) : Prop :=
  ∀ (dp un : Nat) (gd : Option (List Code)) (cn : Str) (cs : Scope) (a : Addr) (ccd : Value) (cl : List (Str × Addr)) (outer : List Env) (A₀ : Around) (base h₀ : Heap) (L : Addr) (m : Str → Option Value) (s : Shared) (Q E : Value → Shared → Prop),
    Below A₀ base outer h₀ → Fr h₀ L s.heap m → (hd.heap_39 w.params).In h₀ → Top p loose mean mg mb h₀ → cs.kind = .function → h.StaysIn s.heap → dp + D < recursionLimit → un + 8 * D < cLine →
    (∀ r h' tk', Fr h₀ L h' m → s.heap.StaysIn h' → Out s.heap h' r → Q r { s with heap := h', toks := tk' }) →
    wpAny (model Challenge.rw_mr0061_01.row.prog w) (ktrTop dp un gd cn cs L a ccd cl outer) c Q E s

theorem stays_refl (h : Heap) : h.StaysIn h := fun _ _ e => e
theorem stays_trans {a b c : Heap} (x : a.StaysIn b) (y : b.StaysIn c) : a.StaysIn c := fun i o e => y i o (x i o e)
theorem news_stays {h₀ h h' : Heap} {L : Addr} {news : List (Addr × Obj)} (N : News h₀ L h news) (k : h.StaysIn h') : News h₀ L h' news :=
  fun p hp => ⟨k _ _ (N p hp).1, (N p hp).2⟩

theorem tr_use {w : World} {p : Program} {loose : List Str} {mean : ExcName → Option Value} {mg mb : Str → Option Value} {D : Nat} {c : Sem Value} {h : Heap} {Out : Heap → Heap → Value → Prop}
    {dp un : Nat} {gd : Option (List Code)} {cn : Str} {cs : Scope} {a : Addr} {ccd : Value} {cl : List (Str × Addr)} {outer : List Env} {A₀ : Around} {base h₀ : Heap} {L : Addr} {m : Str → Option Value} {news : List (Addr × Obj)} {s : Shared} {Q E : Value → Shared → Prop}
    (C : Tr w p loose mean mg mb D c h Out) (B : Below A₀ base outer h₀) (F : Fr h₀ L s.heap m) (X : (hd.heap_39 w.params).In h₀) (N : News h₀ L s.heap news) (T : Top p loose mean mg mb h₀) (hk : cs.kind = .function) (hs : h.StaysIn s.heap) (hd : dp + D < recursionLimit) (hu : un + 8 * D < cLine)
    (ret : ∀ r h' tk', Fr h₀ L h' m → News h₀ L h' news → s.heap.StaysIn h' → Out s.heap h' r → Q r { s with heap := h', toks := tk' }) :
    wpAny (model Challenge.rw_mr0061_01.row.prog w) (ktrTop dp un gd cn cs L a ccd cl outer) c Q E s :=
  C _ _ _ _ _ _ _ _ _ _ _ _ _ _ _ _ _ B F X T hk hs hd hu fun r h' tk' F' k o => ret r h' tk' F' (news_stays N k) k o

theorem tr_mono {w : World} {p : Program} {loose : List Str} {mean : ExcName → Option Value} {mg mb : Str → Option Value} {D : Nat} {c : Sem Value} {h h' : Heap} {Out : Heap → Heap → Value → Prop} (C : Tr w p loose mean mg mb D c h Out) (k : h.StaysIn h') : Tr w p loose mean mg mb D c h' Out :=
  fun _ _ _ _ _ _ _ _ _ _ _ _ _ _ _ _ _ B F X T hk hs hd hu ret => C _ _ _ _ _ _ _ _ _ _ _ _ _ _ _ _ _ B F X T hk (stays_trans k hs) hd hu ret

/-- what a walk of a body must end in -/
noncomputable def Back (g : Heap) (L' : Addr) (s : Shared) (Out : Heap → Value → Prop) (v : Value) (s' : Shared) : Prop :=
  ∃ m' h' tk', s' = { s with heap := h', toks := tk' } ∧ Fr g L' h' m' ∧ Out h' v
theorem back_ {g : Heap} {L' : Addr} {s : Shared} {Out : Heap → Value → Prop} {v : Value} {m' : Str → Option Value} {h' : Heap} {tk' : Nat} (F : Fr g L' h' m') (o : Out h' v) : Back g L' s Out v { s with heap := h', toks := tk' } := ⟨m', h', tk', rfl, F, o⟩

theorem fr_stays {h₀ h h' : Heap} {L : Addr} {m : Str → Option Value} (F : Fr h₀ L h m) (k : h.StaysIn h') : Fr h₀ L h' m := ⟨F.ns.keeps k, fun b o e => k b o (F.keep b o e), F.above⟩

/-- a def of the text, entered with all that stands as its ground -/
theorem enter0 {w : World} {p : Program} {loose : List Str} {mean : ExcName → Option Value} {mg mb : Str → Option Value} {D : Nat} {h : Heap} {Out : Heap → Heap → Value → Prop}
    {name qual : Str} {params : Arguments} {body : List Stmt} {scope : Scope} {dV kV doc pm cdv ct oc : Value} {an od : Option Addr} {osl : Array (Option Value)} {f : Addr} {vs : List Value} {binds : List (Str × Value)}
    (ho : (hd.heap_39 w.params).lookup f = some ⟨oc, od, .func (fnOf name qual params body scope dV kV doc pm an cdv ct), osl⟩) (hcd : codeIn (hd.heap_39 w.params) cdv qual = true)
    (hbind : ∀ s : Shared, (hd.heap_39 w.params).In s.heap → BindsTo s (fnOf name qual params body scope dV kV doc pm an cdv ct) ⟨vs, []⟩ binds) (hloc : ∀ y ∈ binds, scope.names.lookup y.1 = some .local)
    (hstep : ∀ (dp un : Nat) (gd : Option (List Code)) (env : Env) (outer : List Env) (A₀ : Around) (base g : Heap) (L' : Addr) (h₁ : Heap) (s : Shared),
      h.StaysIn g → dp + D < recursionLimit → un + 8 * D < cLine → env.scope.kind = .function →
      Fr g L' h₁ (fun y => binds.reverse.lookup y) → News g L' h₁ [] → Below { handled := none, depth := dp, frames := some (env :: outer), guards := gd, units := un } base (env :: outer) g → (hd.heap_39 w.params).In g → Top p loose mean mg mb g →
      wpAny (model Challenge.rw_mr0061_01.row.prog w) (({ handled := none, depth := dp, frames := some (env :: outer), guards := gd, units := un } : Around).deeper (envOf qual scope L' f cdv)) (execs body (envOf qual scope L' f cdv))
        (fun fl s' => Back g L' s (Out g) (match fl with | .ret v => v | _ => .none) s') (fun _ _ => False) { s with heap := h₁, toks := s.toks + binds.length })
    (hco : scope.isCoroutine = false) (hgen : scope.isGenerator = false) (hk : scope.kind = .function) (hcell : ∀ x ∈ scope.names, x.2 ≠ .cell) (hD : 0 < D) :
    Tr w p loose mean mg mb D (call (.ref f) vs) h Out := by
  intro dp un gd cn cs a ccd cl outer A₀ base h₀ L m s Q E B F X T hke hs hdp hun ret
  refine wpAny_call ?_
  obtain ⟨FG, BG, st, lv⟩ := groundX (R := fun _ _ => True) (A := ktrTop dp un gd cn cs L a ccd cl outer) (env := envX cn cs L a ccd cl) B F (News.nil) rfl rfl hke
  refine codeAny_call_def (fd := fnOf name qual params body scope dV kV doc pm an cdv ct) (body := body) (binds := binds) (by show dp < recursionLimit; omega) ((X.keeps F.keep) _ _ ho) rfl ((T.nolimit).keeps F.keep) (codeRec_of (X.keeps F.keep) hcd) rfl (hbind s (X.keeps F.keep)) hcell hloc (fun h₁ hns hk₁ => ?_) hco hgen hk
  refine wpAny_mono (hstep dp un gd (envX cn cs L a ccd cl) outer A₀ base s.heap s.heap.objs.size h₁ s hs hdp hun hke ⟨hns, hk₁, Nat.le_refl _⟩ News.nil BG (X.keeps F.keep) (T.keeps F.keep)) (fun fl s' hb => ?_) (fun _ _ x => x.elim)
  obtain ⟨m', h', tk', rfl, F', o⟩ := hb
  exact ret _ h' tk' (fr_stays F F'.keep) F'.keep o

noncomputable def Fun2 (w : World) (p : Program) (loose : List Str) (mean : ExcName → Option Value) (mg mb : Str → Option Value) (D : Nat) (h : Heap) (P : Int → Prop) (f : Value) (g : Int → Int → Int) : Prop :=
  ∀ (x y : Int) (t u : Tok), P y → Tr w p loose mean mg mb D (call f [.int x t, .int y u]) h (fun _ _ r => ∃ t, r = .int (g x y) t)
noncomputable def FunB (w : World) (p : Program) (loose : List Str) (mean : ExcName → Option Value) (mg mb : Str → Option Value) (D : Nat) (h : Heap) (f : Value) (g : Int → Int → Bool) : Prop :=
  ∀ (x y : Int) (t u : Tok), Tr w p loose mean mg mb D (call f [.int x t, .int y u]) h (fun _ _ r => r = .bool (g x y))
end Mine

-- part C1
namespace Mine
open PySem PySem.W PySem.Spec PySem.Calls PyProof.Rows
theorem fill : (hd.heap_39 = hd.heap_39 ∧ Challenge.rw_mr0061_01 = Challenge.rw_mr0061_01) := by
  w_top off
  k_fill
  exact ⟨rfl, rfl⟩
variable {w : World} {p : Program} {loose : List Str} {mean : ExcName → Option Value} {mg mb : Str → Option Value} {h : Heap}
set_option maxHeartbeats 8000000 in
theorem spec_add : Fun2 w p loose mean mg mb 1 h (fun _ => True) (.ref 44) (fun x y => x + y) := by
  intro x y t u hP
  refine' enter0 (binds := [(Str.ofString "a", .int x t), (Str.ofString "b", .int y u)]) ?k6 ?k7 ?k9 ?kB ?kS ?c2 ?c3 ?c4 ?c5 ?cD
  case k6 => k_is
  case k7 => k_is
  case k9 => exact fun s _ => BindsTo.of_eq rfl
  case kB => exact locs rfl
  case c2 => exact rfl
  case c3 => exact rfl
  case c4 => exact rfl
  case c5 => decide
  case cD => decide
  intro dp un gd env outer A₀ base g L' h₁ s hs hdp hun hke F N B X T
  dsimp only
  k_fold
  k_steps
  exact back_ (by k_asm) ⟨_, rfl⟩
set_option maxHeartbeats 8000000 in
theorem spec_sub : Fun2 w p loose mean mg mb 1 h (fun _ => True) (.ref 72) (fun x y => x - y) := by
  intro x y t u hP
  refine' enter0 (binds := [(Str.ofString "a", .int x t), (Str.ofString "b", .int y u)]) ?k6 ?k7 ?k9 ?kB ?kS ?c2 ?c3 ?c4 ?c5 ?cD
  case k6 => k_is
  case k7 => k_is
  case k9 => exact fun s _ => BindsTo.of_eq rfl
  case kB => exact locs rfl
  case c2 => exact rfl
  case c3 => exact rfl
  case c4 => exact rfl
  case c5 => decide
  case cD => decide
  intro dp un gd env outer A₀ base g L' h₁ s hs hdp hun hke F N B X T
  dsimp only
  k_fold
  k_steps
  exact back_ (by k_asm) ⟨_, rfl⟩
set_option maxHeartbeats 8000000 in
theorem spec_mul : Fun2 w p loose mean mg mb 1 h (fun y => -1000 ≤ y ∧ y ≤ 1000) (.ref 58) (fun x y => x * y) := by
  intro x y t u hP
  refine' enter0 (binds := [(Str.ofString "a", .int x t), (Str.ofString "b", .int y u)]) ?k6 ?k7 ?k9 ?kB ?kS ?c2 ?c3 ?c4 ?c5 ?cD
  case k6 => k_is
  case k7 => k_is
  case k9 => exact fun s _ => BindsTo.of_eq rfl
  case kB => exact locs rfl
  case c2 => exact rfl
  case c3 => exact rfl
  case c4 => exact rfl
  case c5 => decide
  case cD => decide
  intro dp un gd env outer A₀ base g L' h₁ s hs hdp hun hke F N B X T
  dsimp only
  k_fold
  k_steps
  exact back_ (by k_asm) ⟨_, rfl⟩
set_option maxHeartbeats 8000000 in
theorem spec_and_ : Fun2 w p loose mean mg mb 1 h (fun _ => True) (.ref 51) (fun x y => Builtin.bitAnd x y) := by
  intro x y t u hP
  refine' enter0 (binds := [(Str.ofString "a", .int x t), (Str.ofString "b", .int y u)]) ?k6 ?k7 ?k9 ?kB ?kS ?c2 ?c3 ?c4 ?c5 ?cD
  case k6 => k_is
  case k7 => k_is
  case k9 => exact fun s _ => BindsTo.of_eq rfl
  case kB => exact locs rfl
  case c2 => exact rfl
  case c3 => exact rfl
  case c4 => exact rfl
  case c5 => decide
  case cD => decide
  intro dp un gd env outer A₀ base g L' h₁ s hs hdp hun hke F N B X T
  dsimp only
  k_fold
  k_steps
  exact back_ (by k_asm) ⟨_, rfl⟩
set_option maxHeartbeats 8000000 in
theorem spec_or_ : Fun2 w p loose mean mg mb 1 h (fun _ => True) (.ref 65) (fun x y => Builtin.bitOr x y) := by
  intro x y t u hP
  refine' enter0 (binds := [(Str.ofString "a", .int x t), (Str.ofString "b", .int y u)]) ?k6 ?k7 ?k9 ?kB ?kS ?c2 ?c3 ?c4 ?c5 ?cD
  case k6 => k_is
  case k7 => k_is
  case k9 => exact fun s _ => BindsTo.of_eq rfl
  case kB => exact locs rfl
  case c2 => exact rfl
  case c3 => exact rfl
  case c4 => exact rfl
  case c5 => decide
  case cD => decide
  intro dp un gd env outer A₀ base g L' h₁ s hs hdp hun hke F N B X T
  dsimp only
  k_fold
  k_steps
  exact back_ (by k_asm) ⟨_, rfl⟩
set_option maxHeartbeats 8000000 in
theorem spec_xor : Fun2 w p loose mean mg mb 1 h (fun _ => True) (.ref 79) (fun x y => Builtin.bitXor x y) := by
  intro x y t u hP
  refine' enter0 (binds := [(Str.ofString "a", .int x t), (Str.ofString "b", .int y u)]) ?k6 ?k7 ?k9 ?kB ?kS ?c2 ?c3 ?c4 ?c5 ?cD
  case k6 => k_is
  case k7 => k_is
  case k9 => exact fun s _ => BindsTo.of_eq rfl
  case kB => exact locs rfl
  case c2 => exact rfl
  case c3 => exact rfl
  case c4 => exact rfl
  case c5 => decide
  case cD => decide
  intro dp un gd env outer A₀ base g L' h₁ s hs hdp hun hke F N B X T
  dsimp only
  k_fold
  k_steps
  exact back_ (by k_asm) ⟨_, rfl⟩
set_option maxHeartbeats 8000000 in
theorem spec_ge : FunB w p loose mean mg mb 1 h (.ref 37) (fun x y => decide (x ≥ y)) := by
  intro x y t u
  refine' enter0 (binds := [(Str.ofString "a", .int x t), (Str.ofString "b", .int y u)]) ?k6 ?k7 ?k9 ?kB ?kS ?c2 ?c3 ?c4 ?c5 ?cD
  case k6 => k_is
  case k7 => k_is
  case k9 => exact fun s _ => BindsTo.of_eq rfl
  case kB => exact locs rfl
  case c2 => exact rfl
  case c3 => exact rfl
  case c4 => exact rfl
  case c5 => decide
  case cD => decide
  intro dp un gd env outer A₀ base g L' h₁ s hs hdp hun hke F N B X T
  dsimp only
  k_fold
  k_steps
  exact back_ (by k_asm) rfl
set_option maxHeartbeats 8000000 in
theorem spec_le : FunB w p loose mean mg mb 1 h (.ref 30) (fun x y => decide (x ≤ y)) := by
  intro x y t u
  refine' enter0 (binds := [(Str.ofString "a", .int x t), (Str.ofString "b", .int y u)]) ?k6 ?k7 ?k9 ?kB ?kS ?c2 ?c3 ?c4 ?c5 ?cD
  case k6 => k_is
  case k7 => k_is
  case k9 => exact fun s _ => BindsTo.of_eq rfl
  case kB => exact locs rfl
  case c2 => exact rfl
  case c3 => exact rfl
  case c4 => exact rfl
  case c5 => decide
  case cD => decide
  intro dp un gd env outer A₀ base g L' h₁ s hs hdp hun hke F N B X T
  dsimp only
  k_fold
  k_steps
  exact back_ (by k_asm) rfl

local macro_rules | `(tactic| walk_at "m side") => `(tactic| ((case mB => k_asm); (case mF => k_asm); (case mX => k_asm); (case mN => k_asm); (case mT => k_asm); (case mk => first | exact rfl | assumption); (case ms => first | exact Fr.keep (by k_asm) | k_asm); (case md => ktr_room); (case mu => ktr_units)))
local macro_rules | `(tactic| walk_at "call ref") => `(tactic| (first | (k_dflt (refine' tr_use (spec_ge _ _ _ _) ?mB ?mF ?mX ?mN ?mT ?mk ?ms ?md ?mu ?mr); walk_at "m side") | (k_dflt (refine' tr_use (spec_le _ _ _ _) ?mB ?mF ?mX ?mN ?mT ?mk ?ms ?md ?mu ?mr); walk_at "m side")); (intro r9 h9 tk9 F9 N9 k9 o9); subst o9; (try dsimp only))
set_option maxHeartbeats 8000000 in
theorem spec_greater : Fun2 w p loose mean mg mb 2 h (fun _ => True) (.ref 86) (fun x y => if x ≥ y then x else y) := by
  intro x y t u hP
  refine' enter0 (binds := [(Str.ofString "left", .int x t), (Str.ofString "right", .int y u)]) ?k6 ?k7 ?k9 ?kB ?kS ?c2 ?c3 ?c4 ?c5 ?cD
  case k6 => k_is
  case k7 => k_is
  case k9 => exact fun s _ => BindsTo.of_eq rfl
  case kB => exact locs rfl
  case c2 => exact rfl
  case c3 => exact rfl
  case c4 => exact rfl
  case c5 => decide
  case cD => decide
  intro dp un gd env outer A₀ base g L' h₁ s hs hdp hun hke F N B X T
  dsimp only
  k_fold
  k_steps
  all_goals first | exact back_ (by k_asm) ⟨_, by rw [if_pos (by assumption)]⟩ | exact back_ (by k_asm) ⟨_, by rw [if_neg (by assumption)]⟩
set_option maxHeartbeats 8000000 in
theorem spec_lesser : Fun2 w p loose mean mg mb 2 h (fun _ => True) (.ref 93) (fun x y => if x ≤ y then x else y) := by
  intro x y t u hP
  refine' enter0 (binds := [(Str.ofString "left", .int x t), (Str.ofString "right", .int y u)]) ?k6 ?k7 ?k9 ?kB ?kS ?c2 ?c3 ?c4 ?c5 ?cD
  case k6 => k_is
  case k7 => k_is
  case k9 => exact fun s _ => BindsTo.of_eq rfl
  case kB => exact locs rfl
  case c2 => exact rfl
  case c3 => exact rfl
  case c4 => exact rfl
  case c5 => decide
  case cD => decide
  intro dp un gd env outer A₀ base g L' h₁ s hs hdp hun hke F N B X T
  dsimp only
  k_fold
  k_steps
  all_goals first | exact back_ (by k_asm) ⟨_, by rw [if_pos (by assumption)]⟩ | exact back_ (by k_asm) ⟨_, by rw [if_neg (by assumption)]⟩
end Mine

-- part C2
namespace Mine
open PySem PySem.W PySem.Spec PySem.Calls PyProof.Rows

noncomputable def Stop (P : Prop) : Prop := P
theorem stop_here {P : Prop} (h : Stop P) : P := h

section
variable {prog : Program} {w : World} {A : Around} {E : Value → Shared → Prop} {s : Shared} {h₀ : Heap} {L l it : Addr} {m : Str → Option Value} {news : List (Addr × Obj)} {g : Obj → List (Addr × Obj)} {items : Array Value} {io : Obj} {i : Nat} {x : Value}

noncomputable def ItL (o : Obj) (l : Addr) (i : Nat) : Prop := o.cls = .type "list_iterator" ∧ o.data = .fields #[.ref l, .int i 0]
theorem ItL.at {h : Heap} (a : ItL io l i) (ho : h.get? it = some io) : h.IsListIter it l i := ⟨io, ho, a.1, a.2⟩

/-- iter(a list) -/
theorem iter_list {Q : Value → Shared → Prop} (F : Fr h₀ L s.heap m) (N : News h₀ L s.heap news) (hl : s.heap.IsList l items)
    (h : ∀ (I : Addr) h' oI, Fr h₀ L h' m → News h₀ L h' ((I, oI) :: news) → (∀ p ∈ news, p.1 < I) → ItL oI l 0 → Q (.ref I) { s with heap := h' }) :
    wpAny (model prog w) A (call (.builtin "iter") [.ref l]) Q E s := by
  refine call_function_entry (by decide +kernel) (by decide +kernel) kdk_entry_iter (kdk_args_iter _) ?_
  unfold Builtin.«iter»
  refine wpAny_bind (m := someArgs "iter" 1 2 _) (wpAny_of_eq (a := [Value.ref l]) (by first | rfl | kernel_rfl!) ?_)
  show wpAny _ _ (pyIter (.ref l) >>= _) _ _ _
  refine wpAny_bind (wpAny_pyIter_list hl ?_)
  exact wpAny_pure ⟨_, rfl, h _ _ _ (F.push _) (News.push F N _ rfl) (fun q hq => Heap.lt_size (N q hq).1) ⟨rfl, rfl⟩⟩

theorem listiter_special {Q : Option Value → Shared → Prop} (hit : s.heap.IsListIter it l i)
    (hl : s.heap.IsList l items) (hx : items[i]? = some x)
    (hQ : ∀ h', h'.IsListIter it l (i + 1) → Heap.SameBut it s.heap h' → Q (some x) { s with heap := h' }) :
    wpAny (model prog w) A (callSpecial? (.ref it) (Str.ofString "__next__")) Q E s := by
  obtain ⟨o, ho, hc, hd⟩ := id hit
  obtain ⟨ol, hol, _, nl, hdl⟩ := hl
  refine (wpAny_callSpecial?_slot (name := Str.ofString "__next__") hit.typeIs slot_listiter_next
    (wpAny_call_entry slot_listiter_next hit.typeIs entry_listiter_next ?_ (args_listiter_next _)))
  show wpAny _ _ (field (.ref it) 0 >>= _) _ _ s
  refine wpAny_bind (wpAny_field ho hd (x := .ref l) rfl ?_)
  show wpAny _ _ (if (Value.ref l == Value.none) = true then _ else _) _ _ s
  rw [if_neg (show ¬ ((Value.ref l == Value.none) = true) from Bool.false_ne_true)]
  show wpAny _ _ (field (.ref it) 1 >>= _) _ _ s
  refine wpAny_bind (wpAny_field ho hd (x := .int i 0) rfl ?_)
  show wpAny _ _ (seqItems? (.ref l) >>= _) _ _ s
  refine wpAny_bind (wpAny_seqItems hol hdl ?_)
  simp only [Int.toNat_natCast, hx]
  refine wpAny_bind (wpAny_setField ho hd (by simp) (wpAny_pure ⟨x, rfl, (hQ _ ?_ (Heap.SameBut.update ..))⟩))
  exact ⟨_, Heap.get?_update_self _ ho (Obj.isFreed_of_fields (Obj.data_mapFields hd _)), (Obj.cls_mapFields ..).trans hc, by
    rw [Obj.data_mapFields hd]; simp [rawInt]⟩

/-- next(a list's iterator), an item there -/
theorem next_list {Q : Value → Shared → Prop} (F : Fr h₀ L s.heap m) (N : News h₀ L s.heap news) (U : UpdF it io news g) (hi : ItL io l i) (hl : s.heap.IsList l items) (hx : items[i]? = some x)
    (h : ∀ h' o', Fr h₀ L h' m → News h₀ L h' (g o') → ItL o' l (i + 1) → Q x { s with heap := h' }) :
    wpAny (model prog w) A (call (.builtin "next") [.ref it]) Q E s := by
  obtain ⟨pre, post, hl', hg, a, b⟩ := U.split
  have hmem : (it, io) ∈ news := by rw [hl']; exact List.mem_append_right _ (.head _)
  have hm := N (it, io) hmem
  have hit := hi.at hm.1
  refine call_function_entry (by decide +kernel) (by decide +kernel) kdk_entry_next (kdk_args_next _) ?_
  unfold Builtin.«next»
  refine wpAny_bind (m := someArgs "next" 1 2 _) (wpAny_of_eq (a := [Value.ref it]) (by first | rfl | kernel_rfl!) ?_)
  dsimp only
  refine wpAny_bind (wpAny_specialOf (name := Str.ofString "__next__") hit.typeIs slot_listiter_next.lookup ?_)
  refine wpAny_ite_split (fun hab => absurd hab (by decide)) (fun _ => ?_)
  refine wpAny_bind (listiter_special hit hl hx fun h' hit' hs => ?_)
  obtain ⟨o', ho', hc', hd'⟩ := hit'
  exact wpAny_pure ⟨_, rfl, h h' o' (F.change hs hm.2.1 hm.2.2) (hg o' ▸ (show News h₀ L s.heap (pre ++ (it, io) :: post) from hl' ▸ N).setIn a b hs ho') ⟨hc', hd'⟩⟩
end

theorem fnat_keep {q : Addr} {g h : Heap} (x : FnAt q g) (k : ∀ b o, g.get? b = some o → h.get? b = some o) : FnAt q h := let ⟨a, b, c, d, e⟩ := x; ⟨a, b, c, d, k _ _ e⟩

noncomputable def Nx (P : Shared → Prop) (f : Flow) (s : Shared) : Prop := f = .next ∧ P s
section
variable {prog : Program} {w : World} {A : Around} {s : Shared} {env : Env}
/-- a for over a list's iterator, by what holds ahead of each turn -/
theorem for_it {Q : Flow → Shared → Prop} {x : Str} {ps pos : Pos} {iterE : Expr} {body : List Stmt} {I l : Addr} {items : Array Value} {i₀ : Nat}
    (hh : A.handled = none) (Inv : Nat → Shared → Prop)
    (heval : wpAny (model prog w) A (eval iterE env) (fun xv s₁ => wpAny (model prog w) A (pyIter xv) (fun it s₂ => it = .ref I ∧ Inv i₀ s₂) (fun _ _ => False) s₁) (fun _ _ => False) s)
    (h0 : i₀ ≤ items.size)
    (hit : ∀ i s, Inv i s → s.heap.IsListIter I l i ∧ s.heap.IsList l items)
    (step : ∀ i s v, i < items.size → Inv i s → items[i]? = some v → ∀ h', h'.IsListIter I l (i + 1) → Heap.SameBut I s.heap h' →
      wpAny (model prog w) A (storeName env x v) (fun _ s₂ => wpAny (model prog w) A (execs body env) (Nx (Inv (i + 1))) (fun _ _ => False) s₂) (fun _ _ => False) { s with heap := h' })
    (done : ∀ s, Inv items.size s → ∀ h', Heap.ExtBut I s.heap h' → Q .next { s with heap := h' })
    (hs : ∀ x, foldedSetIterable iterE env x = pure x := by intro _; rfl) :
    wpAny (model prog w) A (exec (.For (.Name x ps) iterE body [] pos) env) Q (fun _ _ => False) s := by
  refine wpAny_For (wpAny_mono heval (fun xv s₁ h₁ => wpAny_mono h₁ (fun it s₂ h₂ => ?_) fun _ _ e => e) fun _ _ e => e) hs
  obtain ⟨rfl, hI⟩ := h₂
  refine codeAny_forLoop_any (fun n s => ∃ i, i ≤ items.size ∧ n = items.size - i ∧ Inv i s) (fun n s hs => ?_) (items.size - i₀) ⟨i₀, h0, rfl, hI⟩
  obtain ⟨i, hi, rfl, hI⟩ := hs
  obtain ⟨a1, a2⟩ := hit i s hI
  rcases Nat.lt_or_ge i items.size with hlt | hge
  · refine wpAny_pyNext_list_item a1 a2 (Array.getElem?_eq_getElem hlt) fun h' hit' hsb => ?_
    refine letGo_listiter (s' := { s with heap := h' }) hit' ?_
    refine wpAny_assign_Name (wpAny_mono (step i s _ hlt hI (Array.getElem?_eq_getElem hlt) h' hit' hsb) (fun _ s₂ h₂ => wpAny_mono h₂ (fun f s₃ h₃ => ?_) fun _ _ e => e.elim) fun _ _ e => e.elim)
    obtain ⟨rfl, h₃⟩ := h₃
    exact ⟨items.size - (i + 1), by omega, i + 1, hlt, rfl, h₃⟩
  · obtain rfl : i = items.size := by omega
    exact wpAny_pyNext_list_end hh a1 a2 (Array.getElem?_eq_none (Nat.le_refl _)) fun h' hx => wpAny_execs_nil (done s hI h' hx)
end
end Mine

local macro_rules | `(tactic| walk_at "call ref") => `(tactic| k_extra "m call")
local macro_rules | `(tactic| walk_at "callWith ref") => `(tactic| (k_here; k_dflt (refine' PySem.W.callWith_F ?k1 ?_; (case k1 => exact Mine.fnat_keep (by assumption) (PyProof.Rows.Fr.keep (by k_asm))); k_whole)))
local macro_rules | `(tactic| walk_at "FnAt") => `(tactic| exact Mine.fnat_keep (by assumption) (PyProof.Rows.Fr.keep (by k_asm)))

-- part C3
namespace Mine
open PySem PySem.W PySem.Spec PySem.Calls PyProof.Rows
local macro_rules | `(tactic| walk_at "m side") => `(tactic| ((case mB => k_asm); (case mF => k_asm); (case mX => k_asm); (case mN => k_asm); (case mT => k_asm); (case mk => first | exact rfl | assumption); (try (case ms => first | exact Fr.keep (by k_asm) | k_asm)); (case md => ktr_room); (case mu => ktr_units)))
local macro_rules | `(tactic| walk_at "exec For Name Name cons nil") => `(tactic| refine stop_here ?_)
local macro_rules | `(tactic| walk_at "call builtin:iter") => `(tactic| (k_here; k_dflt (refine' iter_list ?F ?N ?l ?_; (case F => k_asm); (case N => k_asm); (case l => is_list)); intro I' h' o' F' N' l1 hi'; (try k_lt l1)))
local macro_rules | `(tactic| walk_at "call builtin:next") => `(tactic| (k_here; k_dflt (refine' next_list ?F ?N ?U ?i ?l ?x ?_; (case F => k_asm); (case N => k_asm); (case U => k_updF); (case i => k_asm); (case l => is_list); (case x => rfl)); intro h' o' F' N' hi'; (try dsimp only at N')))
local macro_rules | `(tactic| walk_at "compareOp Is int ref") => `(tactic| refine wpAny_is_other (by rfl) (by intro x; cases x) ?_)
local macro_rules | `(tactic| walk_at "compareOp Is ref ref") => `(tactic| refine wpAny_is_ref_self ?_)
variable {w : World} {p : Program} {loose : List Str} {mean : ExcName → Option Value} {mg mb : Str → Option Value} {h : Heap} {D : Nat} {P : Int → Prop} {f l : Addr} {gg : Int → Int → Int} {vs : List Value} {ns : List Int}


noncomputable abbrev mRed (f l I : Addr) (ini v : Value) (el : Option Value) : Str → Option Value := fun y =>
  if y = Str.ofString "value" then some v else if y = Str.ofString "element" then el else if y = Str.ofString "it" then some (.ref I) else
    List.lookup y [(Str.ofString "function", .ref f), (Str.ofString "sequence", .ref l), (Str.ofString "initial", ini)].reverse
theorem mRed_start (f l I : Addr) (ini v : Value) : (fun y => if y = Str.ofString "value" then some v else if y = Str.ofString "it" then some (Value.ref I) else
    List.lookup y [(Str.ofString "function", Value.ref f), (Str.ofString "sequence", Value.ref l), (Str.ofString "initial", ini)].reverse) = mRed f l I ini v none := by
  funext y
  unfold mRed
  by_cases h1 : y = Str.ofString "value"
  · rw [if_pos h1, if_pos h1]
  · rw [if_neg h1, if_neg h1]
    by_cases h2 : y = Str.ofString "element"
    · rw [if_pos h2, h2]; rfl
    · rw [if_neg h2]
theorem mRed_turn (f l I : Addr) (ini v v' e : Value) (el : Option Value) : (fun y => if y = Str.ofString "value" then some v' else if y = Str.ofString "element" then some e else mRed f l I ini v el y) = mRed f l I ini v' (some e) := by
  funext y
  unfold mRed
  by_cases h1 : y = Str.ofString "value"
  · simp only [h1, if_true]
  · by_cases h2 : y = Str.ofString "element"
    · simp only [h2, if_true]
    · simp only [h1, h2, if_false]

set_option maxHeartbeats 8000000 in
theorem red3 (hfn : FnAt f h) (hf : Fun2 w p loose mean mg mb D h P (.ref f) gg) (hl : h.IsList l vs.toArray) (hi : IntsAre vs ns) (hP : ∀ n ∈ ns, P n) (i : Int) (t : Tok) :
    Tr w p loose mean mg mb (D + 1) (call (.ref 23) [.ref f, .ref l, .int i t]) h (fun _ _ r => ∃ t, r = .int (ns.foldl gg i) t) := by
  refine' enter0 (binds := [(Str.ofString "function", .ref f), (Str.ofString "sequence", .ref l), (Str.ofString "initial", .int i t)]) ?k6 ?k7 ?k9 ?kB ?kS ?c2 ?c3 ?c4 ?c5 ?cD
  case k6 => k_is
  case k7 => k_is
  case k9 => exact fun s X => binds_K X rfl (by k_is) rfl rfl rfl
  case kB => exact locs rfl
  case c2 => exact rfl
  case c3 => exact rfl
  case c4 => exact rfl
  case c5 => decide
  case cD => exact Nat.succ_pos _
  intro dp un gd env outer A₀ base g L' h₁ s hs hdp hun hke F N B X T
  try dsimp only
  k_fold
  have hlg : g.IsList l vs.toArray := stays_list hs hl
  have hfg : FnAt f g := fnat_keep hfn hs
  k_steps
  rename_i I hx0 o hit l1 hx1 h2 F1 N1
  unfold Stop
  rw [mRed_start] at F1
  refine for_it (I := I) (l := l) (items := vs.toArray) (i₀ := 0) rfl
    (fun j s₁ => ∃ (x : Int) (t' : Tok) (el : Option Value) (h : Heap) (tk : Nat) (o : Obj), s₁ = { s with heap := h, toks := tk } ∧ Fr g L' h (mRed f l I (.int i t) (.int x t') el) ∧ News g L' h [(I, o)] ∧ ItL o l j ∧ (ns.drop j).foldl gg x = ns.foldl gg i)
    ?_ (Nat.zero_le _) ?_ ?_ ?_
  · refine ld F1 rfl ?_
    exact wpAny_pyIter_listiter (hit.at (N1 _ (.head _)).1) ⟨rfl, i, t, none, _, _, o, rfl, F1, N1, hit, rfl⟩
  · rintro j s₁ ⟨x, t', el, h3, tk3, o3, rfl, F3, N3, hit3, hfold⟩
    exact ⟨hit3.at (N3 _ (.head _)).1, stays_list F3.keep hlg⟩
  · rintro j s₁ v hlt ⟨x, t', el, h3, tk3, o3, rfl, F3, N3, hit3, hfold⟩ hv h4 ⟨o4, ho4, hc4, hd4⟩ hsb
    have hm := N3 (I, o3) (.head _)
    have F4 := F3.change hsb hm.2.1 hm.2.2
    have N4 : News g L' h4 [(I, o4)] := fun p hp => by cases List.mem_singleton.mp hp; exact ⟨ho4, hm.2⟩
    obtain ⟨n, tn, rfl, hn⟩ := hi.at j v (by simpa using hv)
    have hit4 : ItL o4 l (j + 1) := ⟨hc4, hd4⟩
    clear F3 N3 F1 N1 hsb
    k_with_none
    k_with "m call" => (refine' tr_use (hf _ _ _ _ ?mP) ?mB ?mF ?mX ?mN ?mT ?mk ?ms ?md ?mu ?mr; (case mP => exact hP n (List.mem_of_getElem? hn)); (case ms => exact stays_trans hs (Fr.keep (by k_asm))); walk_at "m side"; intro r9 h9 tk9 F9 N9 k9 o9; obtain ⟨t9, rfl⟩ := o9; (try dsimp only))
    k_steps
    rename_i h8 F8 N8
    rw [mRed_turn] at F8
    refine ⟨rfl, _, _, _, _, _, _, rfl, F8, N8, hit4, ?_⟩
    rw [← hfold, List.drop_eq_getElem_cons (i := j) (List.getElem?_eq_some_iff.mp hn).1, List.foldl_cons, (List.getElem?_eq_some_iff.mp hn).2]
  · rintro s₁ ⟨x, t', el, h3, tk3, o3, rfl, F3, N3, hit3, hfold⟩ h4 hx
    have hm := N3 (I, o3) (.head _)
    have F4 : Fr g L' h4 (mRed f l I (.int i t) (.int x t') el) := ⟨F3.ns.extBut hx hm.2.1.symm, fun b ob e => hx b ob (fun q => by rw [q, hm.2.2] at e; cases e) (F3.keep b ob e), F3.above⟩
    have N4 : News g L' h4 [] := News.nil
    clear F1 N1 F3 N3
    have hlen : vs.toArray.size = ns.length := by rw [List.size_toArray]; exact hi.length
    rw [hlen, List.drop_length, List.foldl_nil] at hfold
    subst hfold
    dsimp only
    k_steps
    exact back_ (by k_asm) ⟨_, rfl⟩

/-- what a call hands back lies in objects of its own making -/
noncomputable def NewOwn (h0 h' : Heap) (own : List (Addr × Obj)) : Prop := ∀ q ∈ own, h'.get? q.1 = some q.2 ∧ h0.objs.size ≤ q.1
noncomputable def FunG {α β : Type} (w : World) (p : Program) (loose : List Str) (mean : ExcName → Option Value) (mg mb : Str → Option Value) (D : Nat) (h : Heap) (R : Heap → List (Addr × Obj) → Value → α → Prop) (S : Heap → Value → β → Prop) (Ok : α → Prop) (f : Value) (st : α → β → α) : Prop :=
  ∀ h' v e a b, h.StaysIn h' → R h' [] v a → S h' e b → Ok a → Tr w p loose mean mg mb D (call f [v, e]) h' (fun h0 h'' r => ∃ own, NewOwn h0 h'' own ∧ ∀ hb, R hb own r (st a b))

theorem newOwn_news {h₀ h0 h' : Heap} {L : Addr} {m : Str → Option Value} {own : List (Addr × Obj)} (F : Fr h₀ L h0 m) (H : NewOwn h0 h' own) : News h₀ L h' own := fun q hq => by
  have hL := F.ns.lt
  have := (H q hq).2
  exact ⟨(H q hq).1, Nat.ne_of_gt (Nat.lt_of_lt_of_le hL this), Heap.get?_none_of_le (Nat.le_trans F.above (Nat.le_of_lt (Nat.lt_of_lt_of_le hL this)))⟩

set_option maxHeartbeats 8000000 in
theorem red2 {α β : Type} {R : Heap → List (Addr × Obj) → Value → α → Prop} {S : Heap → Value → β → Prop} {st : α → β → α} {v0 : Value} {a0 : α} {bs : List β}
    (hR : ∀ h h' own v a, R h own v a → h.StaysIn h' → (∀ q ∈ own, h'.get? q.1 = some q.2) → R h' [] v a) (hS : ∀ h h' e b, S h e b → h.StaysIn h' → S h' e b)
    (hfn : FnAt f h) {Ok : α → Prop} (hf : FunG w p loose mean mg mb D h R S Ok (.ref f) st) (hok : ∀ i, i < bs.length → Ok ((bs.take i).foldl st a0)) (hl : h.IsList l (v0 :: vs).toArray) (hlen : vs.length = bs.length) (hrel : ∀ (i : Nat) e b, vs[i]? = some e → bs[i]? = some b → S h e b)
    (h0 : R h [] v0 a0) (hne : bs ≠ [] ∨ ∀ hb, R hb [] v0 a0) :
    Tr w p loose mean mg mb (D + 1) (call (.ref 23) [.ref f, .ref l]) h (fun h0 h'' r => ∃ own, NewOwn h0 h'' own ∧ ∀ hb, R hb own r (bs.foldl st a0)) := by
  refine' enter0 (binds := [(Str.ofString "function", .ref f), (Str.ofString "sequence", .ref l), (Str.ofString "initial", .ref 15)]) ?k6 ?k7 ?k9 ?kB ?kS ?c2 ?c3 ?c4 ?c5 ?cD
  case k6 => k_is
  case k7 => k_is
  case k9 => exact fun s X => binds_K X rfl (by k_is) rfl rfl rfl
  case kB => exact locs rfl
  case c2 => exact rfl
  case c3 => exact rfl
  case c4 => exact rfl
  case c5 => decide
  case cD => exact Nat.succ_pos _
  intro dp un gd env outer A₀ base g L' h₁ s hs hdp hun hke F N B X T
  try dsimp only
  k_fold
  have hlg : g.IsList l (v0 :: vs).toArray := stays_list hs hl
  have hfg : FnAt f g := fnat_keep hfn hs
  have h0g : R g [] v0 a0 := hR _ _ _ _ _ h0 hs (fun _ h => nomatch h)
  k_steps
  rename_i I hx0 o0 hit0 l1 hx1 tkx hx2 o hit h2 F1 N1
  unfold Stop
  rw [show (v0 :: vs).toArray[0] = v0 from rfl, mRed_start] at F1
  refine for_it (I := I) (l := l) (items := (v0 :: vs).toArray) (i₀ := 1) rfl
    (fun j s₁ => ∃ (v : Value) (a : α) (own : List (Addr × Obj)) (el : Option Value) (h : Heap) (tk : Nat) (o : Obj), s₁ = { s with heap := h, toks := tk } ∧ Fr g L' h (mRed f l I (.ref 15) v el) ∧ News g L' h ((I, o) :: own) ∧ (∀ q ∈ own, g.objs.size ≤ q.1 ∧ q.1 ≠ I) ∧ ItL o l j ∧
      R g own v a ∧ ((∀ hb, R hb own v a) ∨ (j = 1 ∧ own = [] ∧ v = v0 ∧ a = a0)) ∧ 1 ≤ j ∧ a = (bs.take (j - 1)).foldl st a0)
    ?_ (by simp) ?_ ?_ ?_
  · refine ld F1 rfl ?_
    refine wpAny_pyIter_listiter (hit.at (N1 _ (.head _)).1) ?_
    refine ⟨rfl, v0, a0, [], none, _, _, o, rfl, F1, N1, ?_, hit, h0g, Or.inr ⟨rfl, rfl, rfl, rfl⟩, Nat.le_refl _, rfl⟩
    intro q hq
    cases hq
  · rintro j s₁ ⟨v, a, own, el, h3, tk3, o3, rfl, F3, N3, hown, hit3, hRg, hfree, hj, hfold⟩
    exact ⟨hit3.at (N3 _ (.head _)).1, stays_list F3.keep hlg⟩
  · rintro j s₁ e hlt ⟨v, a, own, el, h3, tk3, o3, rfl, F3, N3, hown, hit3, hRg, hfree, hj, hfold⟩ hv h4 ⟨o4, ho4, hc4, hd4⟩ hsb
    have hm := N3 (I, o3) (.head _)
    have F4 := F3.change hsb hm.2.1 hm.2.2
    have N4 : News g L' h4 ((I, o4) :: own) := fun q hq => by
      rcases List.mem_cons.mp hq with rfl | hq
      · exact ⟨ho4, hm.2⟩
      · have := N3 q (.tail _ hq)
        exact ⟨(hsb.2 _ (hown q hq).2).trans this.1, this.2⟩
    have hv' : vs[j - 1]? = some e := by
      have : (v0 :: vs)[j]? = some e := by simpa using hv
      rw [show j = (j - 1) + 1 from by omega, List.getElem?_cons_succ] at this
      exact this
    have hjl : j - 1 < bs.length := by rw [← hlen]; exact (List.getElem?_eq_some_iff.mp hv').1
    have hb : bs[j - 1]? = some bs[j - 1] := List.getElem?_eq_getElem hjl
    generalize bs[j - 1] = b at hb
    have hSg : S g e b := hS _ _ _ _ (hrel _ _ _ hv' hb) hs
    have hit4 : ItL o4 l (j + 1) := ⟨hc4, hd4⟩
    clear F3 N3 F1 N1 hsb
    k_with_none
    k_with "m call" =>
      refine' tr_use (hf _ _ _ a b ?q1 ?q2 ?q3 (hfold ▸ hok _ hjl)) ?mB ?mF ?mX ?mN ?mT ?mk ?ms ?md ?mu ?mr
      case ms => exact stays_refl _
      case q1 => exact stays_trans hs (Fr.keep (by k_asm))
      case q2 =>
        rename News _ _ _ _ => Nx
        exact hR _ _ own _ _ hRg (Fr.keep (by k_asm)) (fun q hq => (Nx q (.tail _ hq)).1)
      case q3 => exact hS _ _ _ _ hSg (Fr.keep (by k_asm))
      walk_at "m side"
      rename Fr _ _ _ _ => Fx
      rename News _ _ _ _ => Nx
      intro r9 h9 tk9 F9 N9 k9 o9
      obtain ⟨own9, hO9, hR9⟩ := o9
      have hI := Heap.lt_size (Nx _ (.head _)).1
      have hO9' : ∀ q ∈ own9, g.objs.size ≤ q.1 ∧ q.1 ≠ I := fun q hq => by
        have h1 := (hO9 q hq).2
        have h2 := Fx.above
        have h3 := Fx.ns.lt
        exact ⟨Nat.le_trans h2 (Nat.le_trans (Nat.le_of_lt h3) h1), Nat.ne_of_gt (Nat.lt_of_lt_of_le hI h1)⟩
      have N10 : News g L' h9 ((I, o4) :: own9) := fun q hq => (List.mem_cons.mp hq).elim (fun e => N9 q (e ▸ .head _)) fun hq => newOwn_news Fx hO9 q hq
      clear N9 Fx Nx
      (try dsimp only)
    k_steps
    rename_i h8 F8 N8
    rw [mRed_turn] at F8
    refine ⟨rfl, r9, st a b, own9, some e, _, _, o4, rfl, F8, N8, hO9', hit4, hR9 g, .inl hR9, by omega, ?_⟩
    rw [show j + 1 - 1 = (j - 1) + 1 from by omega, List.take_succ_eq_append_getElem hjl, List.foldl_append, ← hfold, (List.getElem?_eq_some_iff.mp hb).2]
    rfl
  · rintro s₁ ⟨v, a, own, el, h3, tk3, o3, rfl, F3, N3, hown, hit3, hRg, hfree, hj, hfold⟩ h4 hx
    have hm := N3 (I, o3) (.head _)
    have F4 : Fr g L' h4 (mRed f l I (.ref 15) v el) := ⟨F3.ns.extBut hx hm.2.1.symm, fun b ob e => hx b ob (fun q => by rw [q, hm.2.2] at e; cases e) (F3.keep b ob e), F3.above⟩
    have N4 : News g L' h4 own := fun q hq => ⟨hx _ _ (hown q hq).2 (N3 q (.tail _ hq)).1, (N3 q (.tail _ hq)).2⟩
    clear F1 N1 F3 N3
    have hlen' : (v0 :: vs).toArray.size - 1 = bs.length := by simp [hlen]
    rw [hlen', List.take_length] at hfold
    subst hfold
    have hfree' : ∀ hb, R hb own v (bs.foldl st a0) := by
      rcases hfree with h | ⟨h1, rfl, rfl, h4⟩
      · exact h
      · rcases hne with h2 | h2
        · have : bs.length ≠ 0 := fun q => h2 (List.length_eq_zero_iff.mp q)
          simp at h1; simp [h1] at hlen; omega
        · rw [h4]; exact h2
    dsimp only
    k_steps
    refine back_ (by k_asm) ⟨own, fun q hq => ⟨?_, (hown q hq).1⟩, hfree'⟩
    exact (N4 q hq).1
end Mine

-- part C4
namespace Mine
open PySem PySem.W PySem.Spec PySem.Calls PyProof.Rows

noncomputable def RgAt (Start : Addr → Shared → Prop) (a0 : Int) (n : Nat) (xv : Value) (s₁ : Shared) : Prop :=
  ∃ r b0 t u v, xv = .ref r ∧ IsRange s₁.heap r a0 b0 1 t u v ∧ Builtin.Range.small a0 b0 1 = true ∧ Builtin.Range.rangeSize a0 b0 1 = (n : Int) ∧
    Start s₁.heap.objs.size { s₁ with heap := s₁.heap.push { cls := .type "range_iterator", data := .fields #[rawInt a0, rawInt (n : Int), rawInt 1] } }

section
variable {prog : Program} {w : World} {A : Around} {s : Shared} {env : Env}
/-- a for over a range by ones, by what holds ahead of each turn -/
theorem for_rg {Q : Flow → Shared → Prop} {x : Str} {ps pos : Pos} {iterE : Expr} {body : List Stmt} {a0 : Int} {n : Nat}
    (hh : A.handled = none) (Inv : Addr → Nat → Shared → Prop)
    (heval : wpAny (model prog w) A (eval iterE env) (RgAt (fun I s₂ => Inv I 0 s₂) a0 n) (fun _ _ => False) s)
    (hit : ∀ I i s, Inv I i s → IsRangeIter s.heap I (a0 + (i : Int)) ((n : Int) - (i : Int)) 1)
    (step : ∀ I i s, i < n → Inv I i s → ∀ h', IsRangeIter h' I (a0 + ((i + 1 : Nat) : Int)) ((n : Int) - ((i + 1 : Nat) : Int)) 1 → Heap.SameBut I s.heap h' →
      wpAny (model prog w) A (storeName env x (.int (a0 + (i : Int)) s.toks)) (fun _ s₂ => wpAny (model prog w) A (execs body env) (Nx (Inv I (i + 1))) (fun _ _ => False) s₂) (fun _ _ => False) { s with heap := h', toks := s.toks + 1 })
    (done : ∀ I s, Inv I n s → ∀ h', Heap.ExtBut I s.heap h' → Q .next { s with heap := h' })
    (hs : ∀ x, foldedSetIterable iterE env x = pure x := by intro _; rfl) :
    wpAny (model prog w) A (exec (.For (.Name x ps) iterE body [] pos) env) Q (fun _ _ => False) s := by
  refine wpAny_For (wpAny_mono heval (fun xv s₁ h₁ => ?_) fun _ _ e => e.elim) hs
  obtain ⟨r, b0, t, u, v, rfl, hr, hsmall, hn, hI⟩ := h₁
  refine wpAny_pyIter_range hr hsmall ?_
  rw [hn]
  generalize s₁.heap.objs.size = I at hI
  generalize ({ s₁ with heap := s₁.heap.push { cls := .type "range_iterator", data := .fields #[rawInt a0, rawInt (n : Int), rawInt 1] } } : Shared) = s₂ at hI
  refine codeAny_forLoop_any (fun k s => ∃ i, i ≤ n ∧ k = n - i ∧ Inv I i s) (fun k s hs => ?_) n ⟨0, Nat.zero_le _, rfl, hI⟩
  obtain ⟨i, hi, rfl, hI⟩ := hs
  have a1 := hit I i s hI
  rcases Nat.lt_or_ge i n with hlt | hge
  · refine wpAny_pyNext_range_item a1 (by omega) fun h' hit' hsb => ?_
    have e1 : a0 + (i : Int) + 1 = a0 + ((i + 1 : Nat) : Int) := by omega
    have e2 : (n : Int) - (i : Int) - 1 = (n : Int) - ((i + 1 : Nat) : Int) := by omega
    rw [e1, e2] at hit'
    have hgo : ∀ (Q' : Unit → Shared → Prop) (E' : Value → Shared → Prop) (s' : Shared), Q' () s' → wpAny (model prog w) A (letOwnedTupleGo (.Name x ps) (.ref I) (.int (a0 + (i : Int)) s.toks)) Q' E' s' := fun Q' E' s' hq => by
      unfold letOwnedTupleGo
      exact wpAny_pure hq
    refine hgo _ _ _ ?_
    refine wpAny_assign_Name (wpAny_mono (step I i s hlt hI h' hit' hsb) (fun _ s₂ h₂ => wpAny_mono h₂ (fun f s₃ h₃ => ?_) fun _ _ e => e.elim) fun _ _ e => e.elim)
    obtain ⟨rfl, h₃⟩ := h₃
    exact ⟨n - (i + 1), by omega, i + 1, hlt, rfl, h₃⟩
  · obtain rfl : i = n := by omega
    exact wpAny_pyNext_range_end hh a1 (by omega) fun h' hx => wpAny_execs_nil (done I s hI h' hx)
end

theorem small_one {a b : Int} (h1 : -1000000 ≤ a) (h2 : a ≤ 1000000) (h3 : -1000000 ≤ b) (h4 : b ≤ 1000000) : Builtin.Range.small a b 1 = true := by
  unfold Builtin.Range.small
  rw [rangeSize_one]
  unfold Builtin.Range.rangeFitsLong
  by_cases h : a < b
  · simp [h]; omega
  · simp [h]; omega

theorem rg_at {Start : Addr → Shared → Prop} {a0 b0 : Int} {n : Nat} {r : Addr} {t u v : Tok} {h₀ : Heap} {L : Addr} {m : Str → Option Value} {news : List (Addr × Obj)} {s₁ : Shared} (hr : IsRange s₁.heap r a0 b0 1 t u v)
    (hsmall : Builtin.Range.small a0 b0 1 = true) (hn : Builtin.Range.rangeSize a0 b0 1 = (n : Int)) (F : Fr h₀ L s₁.heap m) (N : News h₀ L s₁.heap news)
    (k : ∀ I h', Fr h₀ L h' m → News h₀ L h' ((I, itR a0 (n : Int)) :: news) → (∀ q ∈ news, q.1 < I) → Start I { s₁ with heap := h' }) : RgAt Start a0 n (.ref r) s₁ :=
  ⟨r, b0, t, u, v, rfl, hr, hsmall, hn, k _ _ (F.push _) (N.push F _) fun q hq => Heap.lt_size (N q hq).1⟩

/-- a list of ints, in the heap or among the objects told -/
noncomputable def RL (h : Heap) (own : List (Addr × Obj)) (v : Value) (ns : List Int) : Prop :=
  ∃ (a : Addr) (vs : List Value) (n : Nat), v = .ref a ∧ IntsAre vs ns ∧ (h.get? a = some (listOf vs.toArray n) ∨ (a, listOf vs.toArray n) ∈ own)

noncomputable def laidT (J B : Int → Int → Int) (x : Int) : Int → List Int → List Int
  | p, [] => [B p x]
  | p, n :: r => J n (B p x) :: laidT J B x n r
noncomputable def laid (J B : Int → Int → Int) (ns : List Int) (x : Int) : List Int := match ns with
  | [] => []
  | n :: r => J n x :: laidT J B x n r

noncomputable abbrev mLaid (j b l G : Addr) (x : Int) (t : Tok) (el : Option Value) : Str → Option Value := fun y =>
  if y = Str.ofString "size" then el else if y = Str.ofString "grown" then some (.ref G) else
    List.lookup y [(Str.ofString "join", .ref j), (Str.ofString "bind", .ref b), (Str.ofString "told", .ref l), (Str.ofString "number", .int x t)].reverse
theorem mLaid_start (j b l G : Addr) (x : Int) (t : Tok) : (fun y => if y = Str.ofString "grown" then some (Value.ref G) else
    List.lookup y [(Str.ofString "join", Value.ref j), (Str.ofString "bind", Value.ref b), (Str.ofString "told", Value.ref l), (Str.ofString "number", Value.int x t)].reverse) = mLaid j b l G x t none := by
  funext y
  unfold mLaid
  by_cases h1 : y = Str.ofString "size"
  · subst h1; rfl
  · rw [if_neg h1]
theorem mLaid_turn (j b l G : Addr) (x : Int) (t : Tok) (v : Value) (el : Option Value) : (fun y => if y = Str.ofString "size" then some v else mLaid j b l G x t el y) = mLaid j b l G x t (some v) := by
  funext y
  unfold mLaid
  by_cases h1 : y = Str.ofString "size"
  · simp only [h1, if_true]
  · simp only [h1, if_false]
noncomputable def laidP (J B : Int → Int → Int) (x : Int) (full : List Int) (i : Nat) : List Int := (List.range i).map fun k => J (full.getD (k + 1) 0) (B (full.getD k 0) x)
theorem laidP_succ (J B : Int → Int → Int) (x : Int) (full : List Int) (i : Nat) : laidP J B x full (i + 1) = laidP J B x full i ++ [J (full.getD (i + 1) 0) (B (full.getD i 0) x)] := by
  unfold laidP
  rw [List.range_succ, List.map_append]
  rfl
theorem laidP_cons (J B : Int → Int → Int) (x n0 n1 : Int) (r : List Int) (k : Nat) : laidP J B x (n0 :: n1 :: r) (k + 1) = J n1 (B n0 x) :: laidP J B x (n1 :: r) k := by
  unfold laidP
  rw [List.range_succ_eq_map, List.map_cons, List.map_map]
  rfl
theorem laidT_eq (J B : Int → Int → Int) (x : Int) : ∀ (ns : List Int) (n0 : Int), laidP J B x (n0 :: ns) ns.length ++ [B ((n0 :: ns).getD ns.length 0) x] = laidT J B x n0 ns
  | [], n0 => rfl
  | n1 :: r, n0 => by
    rw [List.length_cons, laidP_cons, List.cons_append, laidT]
    congr 1
    exact laidT_eq J B x r n1
theorem laid_eq (J B : Int → Int → Int) (x n0 : Int) (ns : List Int) : (J n0 x :: laidP J B x (n0 :: ns) ns.length) ++ [B ((n0 :: ns).getD ns.length 0) x] = laid J B (n0 :: ns) x := by
  rw [List.cons_append, laidT_eq]; rfl
local macro_rules | `(tactic| walk_at "m side") => `(tactic| ((case mB => k_asm); (case mF => k_asm); (case mX => k_asm); (case mN => k_asm); (case mT => k_asm); (case mk => first | exact rfl | assumption); (try (case ms => first | exact Fr.keep (by k_asm) | k_asm)); (case md => ktr_room); (case mu => ktr_units)))
local macro_rules | `(tactic| walk_at "exec For Name Call cons nil") => `(tactic| refine stop_here ?_)
variable {w : World} {p : Program} {loose : List Str} {mean : ExcName → Option Value} {mg mb : Str → Option Value} {h : Heap} {D : Nat} {P : Int → Prop} {f l : Addr} {gg : Int → Int → Int} {vs : List Value} {ns : List Int}

set_option maxHeartbeats 8000000 in
theorem laid_spec {j b : Addr} {J B : Int → Int → Int} {x n0 : Int} {t : Tok} (hjn : FnAt j h) (hbn : FnAt b h) (hj : Fun2 w p loose mean mg mb D h (fun _ => True) (.ref j) J) (hb : Fun2 w p loose mean mg mb D h P (.ref b) B) (hPx : P x)
    (hl : h.IsList l vs.toArray) (hi : IntsAre vs (n0 :: ns)) (hlen : ns.length < 1000) :
    Tr w p loose mean mg mb (D + 1) (call (.ref 100) [.ref j, .ref b, .ref l, .int x t]) h (fun h0 h'' r => ∃ own, NewOwn h0 h'' own ∧ ∀ hb, RL hb own r (laid J B (n0 :: ns) x)) := by
  refine' enter0 (binds := [(Str.ofString "join", .ref j), (Str.ofString "bind", .ref b), (Str.ofString "told", .ref l), (Str.ofString "number", .int x t)]) ?k6 ?k7 ?k9 ?kB ?kS ?c2 ?c3 ?c4 ?c5 ?cD
  case k6 => k_is
  case k7 => k_is
  case k9 => exact fun s _ => BindsTo.of_eq rfl
  case kB => exact locs rfl
  case c2 => exact rfl
  case c3 => exact rfl
  case c4 => exact rfl
  case c5 => decide
  case cD => exact Nat.succ_pos _
  intro dp un gd env outer A₀ base g L' h₁ s hs hdp hun hke F N Bl X T
  try dsimp only
  k_fold
  have hlg : g.IsList l vs.toArray := stays_list hs hl
  have hjg : FnAt j g := fnat_keep hjn hs
  have hbg : FnAt b g := fnat_keep hbn hs
  k_with_none
  k_with "m call" =>
    first
      | refine tr_use (hj _ _ _ _ trivial) (by k_asm) (by k_asm) (by k_asm) (by k_asm) (by k_asm) (by first | exact rfl | assumption) (by exact stays_trans hs (Fr.keep (by k_asm))) (by ktr_room) (by ktr_units) ?_
      | refine tr_use (hb _ _ _ _ hPx) (by k_asm) (by k_asm) (by k_asm) (by k_asm) (by k_asm) (by first | exact rfl | assumption) (by exact stays_trans hs (Fr.keep (by k_asm))) (by ktr_room) (by ktr_units) ?_
    intro r9 h9 tk9 F9 N9 k9 o9
    obtain ⟨t9, rfl⟩ := o9
    (try dsimp only)
  k_steps
  rename_i t0 G hx0 l1 h2 F1 N1
  unfold Stop
  rw [mLaid_start] at F1
  rw [show (n0 :: ns).getD (Int.toNat 0) 0 = n0 from rfl] at N1
  have hvl : vs.length = ns.length + 1 := hi.length
  refine for_rg (a0 := 1) (n := ns.length) rfl
    (fun I i s₁ => ∃ (gv : List Value) (c : Nat) (el : Option Value) (h : Heap) (tk : Nat), s₁ = { s with heap := h, toks := tk } ∧ Fr g L' h (mLaid j b l G x t el) ∧
      News g L' h [(I, itR (1 + (i : Int)) ((ns.length : Int) - (i : Int))), (G, listOf gv.toArray c)] ∧ G < I ∧ IntsAre gv (J n0 x :: laidP J B x (n0 :: ns) i) ∧ i ≤ ns.length)
    ?_ ?_ ?_ ?_
  · k_steps
    refine rg_at (by assumption) (small_one (by omega) (by omega) (by omega) (by omega)) (by rw [rangeSize_nat]; omega) (by assumption) (by assumption) ?_
    intro I h3 F3 N3 l3
    refine ⟨[Value.int (J n0 x) t9], 0, none, h3, _, rfl, F3, ?_, l3 _ (.head _), ?_, Nat.zero_le _⟩
    · simpa using N3
    · exact .cons _ _ .nil
  · rintro I i s₁ ⟨gv, c, el, h3, tk3, rfl, F3, N3, hGI, hgv, hin⟩
    exact (N3 _ (.head _)).1
  · rintro I i s₁ hlt ⟨gv, c, el, h3, tk3, rfl, F3, N3, hGI, hgv, hin⟩ h4 hit4 hsb
    have hm := N3 _ (.head _)
    have F4 := F3.change hsb hm.2.1 hm.2.2
    have N4 : News g L' h4 [(I, itR (1 + ((i + 1 : Nat) : Int)) ((ns.length : Int) - ((i + 1 : Nat) : Int))), (G, listOf gv.toArray c)] := fun q hq => by
      rcases List.mem_cons.mp hq with rfl | hq
      · exact ⟨hit4, hm.2⟩
      · have := N3 q (.tail _ hq)
        cases List.mem_singleton.mp hq
        exact ⟨(hsb.2 _ (Nat.ne_of_lt hGI)).trans this.1, this.2⟩
    have hGI' : @LT.lt Nat _ G I := hGI
    have hgl : gv.length = i + 1 := by rw [hgv.length]; simp [laidP]
    clear F3 N3 F1 N1 hsb
    dsimp only
    k_steps
    rename_i h8 F8 N8
    rw [mLaid_turn] at F8
    rw [List.push_toArray] at N8
    refine ⟨rfl, _, _, _, _, _, rfl, F8, N8, hGI, ?_, hlt⟩
    rw [laidP_succ, ← List.cons_append]
    refine hgv.append ?_
    rw [show (1 + (i : Int)).toNat = i + 1 from by omega, show (1 + (i : Int) - 1).toNat = i from by omega]
    exact .cons _ _ .nil
  · rintro I s₁ ⟨gv, c, el, h3, tk3, rfl, F3, N3, hGI, hgv, hin⟩ h4 hx
    have hm := N3 _ (.head _)
    have F4 : Fr g L' h4 (mLaid j b l G x t el) := ⟨F3.ns.extBut hx hm.2.1.symm, fun b ob e => hx b ob (fun q => by rw [q, hm.2.2] at e; cases e) (F3.keep b ob e), F3.above⟩
    have N4 : News g L' h4 [(G, listOf gv.toArray c)] := fun q hq => by
      cases List.mem_singleton.mp hq
      exact ⟨hx _ _ (Nat.ne_of_lt hGI) (N3 _ (.tail _ (.head _))).1, (N3 _ (.tail _ (.head _))).2⟩
    have hgl : gv.length = ns.length + 1 := by rw [hgv.length]; simp [laidP]
    clear F1 N1 F3 N3
    dsimp only
    k_steps
    rename_i tz G2 h5 F5 N5 l5 h6 F6 N6
    have hsz : g.objs.size ≤ h5.objs.size := Nat.le_trans F5.above (Nat.le_of_lt F5.ns.lt)
    refine back_ F6 ⟨[(h5.objs.size, listOf (gv ++ [Value.int (B ((n0 :: ns).getD (-1 + ((n0 :: ns).length : Int)).toNat 0) x) t9]).toArray 0)], fun q hq => ?_, fun hb => ⟨_, _, 0, rfl, ?_, .inr (.head _)⟩⟩
    · cases List.mem_singleton.mp hq
      exact ⟨(N6 _ (.head _)).1, hsz⟩
    · rw [← laid_eq, show (-1 + ((n0 :: ns).length : Int)).toNat = ns.length from by rw [List.length_cons]; omega]
      exact hgv.append (.cons _ _ .nil)
end Mine

-- part C5
namespace Mine
open PySem PySem.W PySem.Spec PySem.Calls PyProof.Rows

noncomputable abbrev lamQual : Str := Str.ofString "_law_two_roads" ++ ".<locals>." ++ "<lambda>"
/-- the table of the codes that _law_two_roads has made: none yet, or its lambda's -/
noncomputable def TabOk (h : Heap) (ps : Array Value) : Prop :=
  ps = #[] ∨ ∃ c oc vs t, ps = #[rawInt 50, rawInt 20, .ref c] ∧ h.get? c = some oc ∧ oc.data = .fields vs ∧ vs[1]? = some (.str lamQual t) ∧ c ≠ 107
noncomputable def TrT (w : World) (p : Program) (loose : List Str) (mean : ExcName → Option Value) (mg mb : Str → Option Value) (D : Nat) (c : Sem Value) (h : Heap) (Out : Heap → Heap → Value → Prop) : Prop :=
  ∀ (dp un : Nat) (gd : Option (List Code)) (cn : Str) (cs : Scope) (a : Addr) (ccd : Value) (cl : List (Str × Addr)) (outer : List Env) (A₀ : Around) (base h₀ : Heap) (L : Addr) (m : Str → Option Value) (s : Shared) (ps : Array Value) (Q E : Value → Shared → Prop),
    Below A₀ base outer h₀ → Fr h₀ L s.heap m → (hd.heap_39 w.params).In h₀ → Top p loose mean mg mb h₀ → CodeHd h₀ 109 107 → h₀.get? 107 = none → L ≠ 107 → s.heap.get? 107 = some (tabObj ps) → TabOk s.heap ps → cs.kind = .function →
    h.StaysIn s.heap → h.get? 107 = none → dp + D < recursionLimit → un + 8 * D < cLine →
    (∀ r h' tk' ps', Fr h₀ L h' m → Heap.ExtBut 107 s.heap h' → h'.get? 107 = some (tabObj ps') → TabOk h' ps' → Out s.heap h' r → Q r { s with heap := h', toks := tk' }) →
    wpAny (model Challenge.rw_mr0061_01.row.prog w) (ktrTop dp un gd cn cs L a ccd cl outer) c Q E s

noncomputable def BackT (g : Heap) (L' : Addr) (s : Shared) (Out : Heap → Value → Prop) (v : Value) (s' : Shared) : Prop :=
  ∃ m' h' tk' ps', s' = { s with heap := h', toks := tk' } ∧ Fr g L' h' m' ∧ h'.get? 107 = some (tabObj ps') ∧ TabOk h' ps' ∧ Out h' v

theorem enterT {w : World} {p : Program} {loose : List Str} {mean : ExcName → Option Value} {mg mb : Str → Option Value} {D : Nat} {h : Heap} {Out : Heap → Heap → Value → Prop}
    {name qual : Str} {params : Arguments} {body : List Stmt} {scope : Scope} {dV kV doc pm cdv ct oc : Value} {an od : Option Addr} {osl : Array (Option Value)} {f : Addr} {vs : List Value} {binds : List (Str × Value)}
    (ho : (hd.heap_39 w.params).lookup f = some ⟨oc, od, .func (fnOf name qual params body scope dV kV doc pm an cdv ct), osl⟩) (hcd : codeIn (hd.heap_39 w.params) cdv qual = true)
    (hbind : ∀ s : Shared, (hd.heap_39 w.params).In s.heap → BindsTo s (fnOf name qual params body scope dV kV doc pm an cdv ct) ⟨vs, []⟩ binds)
    (hkind : (binds.all fun y => scope.names.lookup y.1 == some .local || scope.names.lookup y.1 == some .cell) = true)
    (hnd : ((cellsFrom 0 scope.names []).map (·.1)).Nodup)
    (hOut : ∀ (s0 g h' : Heap) v, s0.objs.size = g.objs.size → Out g h' v → Out s0 h' v)
    (hstep : ∀ (dp un : Nat) (gd : Option (List Code)) (env : Env) (outer : List Env) (A₀ : Around) (base g : Heap) (L' : Addr) (h₁ : Heap) (s : Shared) (tk : Nat) (cells : List (Addr × Obj)) (ps : Array Value),
      h.StaysIn g → dp + D < recursionLimit → un + 8 * D < cLine → env.scope.kind = .function → g.get? 107 = none → TabOk g ps → 107 < L' → CodeHd g 109 107 →
      Fr g L' h₁ (bindL (envOfC qual scope L' f cdv).kindOf binds fun _ => none) → News g L' h₁ (cells ++ [(107, tabObj ps)]) → CellsAre (bindC (envOfC qual scope L' f cdv).kindOf binds fun _ => none) (cellsFrom (L' + 1) scope.names []) cells →
      Below { handled := none, depth := dp, frames := some (env :: outer), guards := gd, units := un } base (env :: outer) g → (hd.heap_39 w.params).In g → Top p loose mean mg mb g →
      wpAny (model Challenge.rw_mr0061_01.row.prog w) (({ handled := none, depth := dp, frames := some (env :: outer), guards := gd, units := un } : Around).deeper (envOfC qual scope L' f cdv)) (execs body (envOfC qual scope L' f cdv))
        (fun fl s' => BackT g L' s (Out g) (match fl with | .ret v => v | _ => .none) s') (fun _ _ => False) { s with heap := h₁, toks := tk })
    (hco : scope.isCoroutine = false) (hgen : scope.isGenerator = false) (hk : scope.kind = .function) (hD : 0 < D) :
    TrT w p loose mean mg mb D (call (.ref f) vs) h Out := by
  intro dp un gd cn cs a ccd cl outer A₀ base h₀ L m s ps Q E B F X T hC h0P hLP hP hTab hke hs hhP hdp hun ret
  refine wpAny_call ?_
  have N : News h₀ L s.heap [(107, tabObj ps)] := fun q hq => by
    cases List.mem_singleton.mp hq
    exact ⟨hP, fun e => hLP e.symm, h0P⟩
  obtain ⟨FG, BG, st, lv⟩ := groundX (R := fun _ _ => True) (A := ktrTop dp un gd cn cs L a ccd cl outer) (env := envX cn cs L a ccd cl) B F N rfl rfl hke
  refine codeAny_call_function (by show dp < recursionLimit; omega) ((X.keeps F.keep) _ _ ho) rfl hco hgen rfl (codeRec_of (X.keeps F.keep) hcd) (hbind s (X.keeps F.keep) _ _ _ _ ?_)
  refine wpAny_newFunctionEnv_cells hk (kindsX hkind _) fun env' he s' x => ?_
  subst he
  refine ⟨((T.nolimit).keeps F.keep).keeps x.toInCall.keep, codeAny_func ?_⟩
  obtain ⟨h₁, tk, rfl, _⟩ := x.done
  have hk₁ := x.toInCall.keep
  obtain ⟨cells, NC, Y⟩ := Cl.news (h₀ := s.heap) (Nat.le_refl _) fun n c hm => ⟨x.cell n c (lookup_of_mem_nodup (cellsFrom_names scope.names 0 (s.heap.objs.size + 1) [] [] rfl ▸ hnd) hm), x.above n c hm⟩
  have hsz := hideAll_size ([((107 : Addr), tabObj ps)].map (·.1)) s.heap
  have hgs : h.StaysIn (hideAll s.heap ([((107 : Addr), tabObj ps)].map (·.1))) := fun b o e => hideAll_get _ (hs b o e) fun q => by
    have q' : b = 107 := List.mem_singleton.mp q
    rw [q', hhP] at e; cases e
  have hgT : TabOk (hideAll s.heap ([((107 : Addr), tabObj ps)].map (·.1))) ps := by
    rcases hTab with e | ⟨c, oc, vs', t, e, h1, h2, h3⟩
    · exact .inl e
    · exact .inr ⟨c, oc, vs', t, e, hideAll_get _ h1 fun q => h3.2 (List.mem_singleton.mp q), h2, h3⟩
  refine wpAny_mono (hstep dp un gd (envX cn cs L a ccd cl) outer A₀ base _ s.heap.objs.size h₁ s tk cells ps hgs hdp hun hke (hideAll_none _ (List.mem_singleton.mpr rfl)) hgT (Heap.lt_size hP) (hC.keeps st)
    ⟨x.toInCall.ns, fun b o e => hk₁ b o (of_hideAll _ e), Nat.le_of_eq hsz⟩ (fun q hq => ?_) Y BG (X.keeps st) (T.keeps st)) (fun fl s' hb => ?_) (fun _ _ x => x.elim)
  · rcases List.mem_append.mp hq with hp | hp
    · refine ⟨(NC q hp).1, (NC q hp).2.1, ?_⟩
      cases e : (hideAll s.heap ([((107 : Addr), tabObj ps)].map (·.1))).get? q.1 with
      | none => rfl
      | some o => have := of_hideAll _ e; rw [(NC q hp).2.2] at this; cases this
    · cases List.mem_singleton.mp hp
      exact ⟨hk₁ _ _ hP, Nat.ne_of_lt (Heap.lt_size hP), hideAll_none _ (List.mem_singleton.mpr rfl)⟩
  · obtain ⟨m', h', tk', ps', rfl, F', hP', hT', o⟩ := hb
    have ext : Heap.ExtBut 107 s.heap h' := fun b ob hb e => F'.keep b ob (hideAll_get _ e fun q => hb (List.mem_singleton.mp q))
    refine ret _ h' tk' ps' ⟨F.ns.extBut ext hLP, fun b ob e => ext b ob (fun q => by rw [q, h0P] at e; cases e) (F.keep b ob e), F.above⟩ ext hP' hT' (hOut _ _ _ _ hsz.symm o)

end Mine

-- part C6
namespace Mine
open PySem PySem.W PySem.Spec PySem.Calls PyProof.Rows

theorem nameX_FB {M : Model} {A : Around} {E : Value → Shared → Prop} {s : Shared} {h₀ : Heap} {L a : Addr} {m : Str → Option Value} {cn : Str} {cs : Scope} {ccd : Value} {cl : List (Str × Addr)} {x : Str} {pos : Pos} {v : Value} {Q : Value → Shared → Prop} {c : Addr} {o : Obj}
    (F : Fr h₀ L s.heap m) (hm : h₀.get? c = some o) (hc : cl.lookup x = some c) (hd : o.data = .cell (some v)) (h : Q v s)
    (hk : cs.kind = .function := by rfl) (hx : (envX cn cs L a ccd cl).kindOf x = some .free := by rfl) (hb : (x == ("__debug__" : Str)) = false := by decide) (hn : (x == ("__classdict__" : Str)) = false := by decide) :
    wpAny M A (eval (.Name x pos) (envX cn cs L a ccd cl)) Q E s := wpAny_Name (wpAny_loadName_free hk hx hc ⟨o, F.keep _ _ hm, hd⟩ h hn) hb

/-- a lambda that stands in the heap, entered -/
theorem enterL {w : World} {p : Program} {loose : List Str} {mean : ExcName → Option Value} {mg mb : Str → Option Value} {D : Nat} {h : Heap} {Out : Heap → Heap → Value → Prop}
    {name qual : Str} {params : Arguments} {body : Expr} {scope : Scope} {cl : List (Str × Addr)} {pm ctv : Value} {c' f : Addr} {vs : List Value} {binds : List (Str × Value)}
    (ho : h.get? f = some (kla_obj name qual params body scope cl pm c' ctv)) (hcd : h.CodeRec (.ref c') qual)
    (hbind : bindArgs (kla_fn name qual params body scope cl pm (.ref c') ctv) ⟨vs, []⟩ = pure binds) (hloc : ∀ y ∈ binds, scope.names.lookup y.1 = some .local)
    (hstep : ∀ (dp un : Nat) (gd : Option (List Code)) (env : Env) (outer : List Env) (A₀ : Around) (base g : Heap) (L' : Addr) (h₁ : Heap) (s : Shared),
      h.StaysIn g → dp + D < recursionLimit → un + 8 * D < cLine → env.scope.kind = .function →
      Fr g L' h₁ (fun y => binds.reverse.lookup y) → News g L' h₁ [] → Below { handled := none, depth := dp, frames := some (env :: outer), guards := gd, units := un } base (env :: outer) g → (hd.heap_39 w.params).In g → Top p loose mean mg mb g →
      wpAny (model Challenge.rw_mr0061_01.row.prog w) (({ handled := none, depth := dp, frames := some (env :: outer), guards := gd, units := un } : Around).deeper (envX qual scope L' f (.ref c') cl)) (eval body (envX qual scope L' f (.ref c') cl))
        (fun v s' => Back g L' s (Out g) v s') (fun _ _ => False) { s with heap := h₁, toks := s.toks + binds.length })
    (hco : scope.isCoroutine = false) (hgen : scope.isGenerator = false) (hk : scope.kind = .function) (hcell : ∀ x ∈ scope.names, x.2 ≠ .cell) (hD : 0 < D) :
    Tr w p loose mean mg mb D (call (.ref f) vs) h Out := by
  intro dp un gd cn cs a ccd cl₀ outer A₀ base h₀ L m s Q E B F X T hke hs hdp hun ret
  refine wpAny_call ?_
  obtain ⟨FG, BG, st, lv⟩ := groundX (R := fun _ _ => True) (A := ktrTop dp un gd cn cs L a ccd cl₀ outer) (env := envX cn cs L a ccd cl₀) B F (News.nil) rfl rfl hke
  refine kla_callFunE (by show dp < recursionLimit; omega) (hs _ _ ho) rfl hco hgen rfl (hcd.keeps hs) ?_
  rw [hbind]
  refine wpAny_pure (wpAny_newFunctionEnv hcell hloc (fun h₁ hns hsb => ⟨((T.nolimit).keeps F.keep).fresh _ hsb, ?_⟩) hk)
  show codeAny _ _ (.expr body (envX qual scope s.heap.objs.size f (.ref c') cl)) _ _
  have hk₁ : ∀ b o, s.heap.get? b = some o → h₁.get? b = some o := fun b o e => hsb.extBut b o (Nat.ne_of_lt (Heap.lt_size e)) (Heap.get?_push_of_some _ e)
  refine kla_codeExpr (wpAny_mono (hstep dp un gd (envX cn cs L a ccd cl₀) outer A₀ base s.heap s.heap.objs.size h₁ s hs hdp hun hke ⟨hns, hk₁, Nat.le_refl _⟩ News.nil BG (X.keeps F.keep) (T.keeps F.keep)) (fun v s' hb => ?_) (fun _ _ x => x.elim))
  obtain ⟨m', h', tk', rfl, F', o⟩ := hb
  exact ret _ h' tk' (fr_stays F F'.keep) F'.keep o

theorem rl_absorb (h h' : Heap) (own : List (Addr × Obj)) (v : Value) (ns : List Int) (x : RL h own v ns) (k : h.StaysIn h') (ko : ∀ q ∈ own, h'.get? q.1 = some q.2) : RL h' [] v ns := by
  obtain ⟨a, vs, n, rfl, hi, h1 | h1⟩ := x
  · exact ⟨a, vs, n, rfl, hi, .inl (k _ _ h1)⟩
  · exact ⟨a, vs, n, rfl, hi, .inl (ko _ h1)⟩

theorem newOwn_base {h₀ h0 h' : Heap} {L : Addr} {m : Str → Option Value} {own : List (Addr × Obj)} (F : Fr h₀ L h0 m) (H : NewOwn h0 h' own) : NewOwn h₀ h' own :=
  fun q hq => ⟨(H q hq).1, Nat.le_trans F.above (Nat.le_trans (Nat.le_of_lt F.ns.lt) (H q hq).2)⟩
/-- a row of one number -/
noncomputable def RowS (P : Int → Prop) (h : Heap) (v : Value) (x : Int) : Prop := P x ∧ ∃ a t, v = .ref a ∧ h.IsList a [Value.int x t].toArray
theorem rowS_stays (P : Int → Prop) (h h' : Heap) (v : Value) (x : Int) (r : RowS P h v x) (k : h.StaysIn h') : RowS P h' v x :=
  let ⟨hp, a, t, e, hl⟩ := r; ⟨hp, a, t, e, stays_list k hl⟩

/-- the one lambda of _law_two_roads, read off the text -/
noncomputable def lamIn (K : Frag) : Option (Arguments × Expr × Scope × Pos) := match K.lookup 110 with
  | some ⟨_, _, .func fd, _⟩ => match fd.body with
    | .stmts (_ :: .Assign _ (.Call _ (.Lambda a b c d :: _) _ _) _ :: _) => some (a, b, c, d)
    | _ => none
  | _ => none

local macro_rules | `(tactic| walk_at "eval Name") => `(tactic| k_extra "m free")
variable {w : World} {p : Program} {loose : List Str} {mean : ExcName → Option Value} {mg mb : Str → Option Value} {h : Heap} {D : Nat} {P : Int → Prop}
set_option maxHeartbeats 8000000 in
theorem lam_spec {j b : Addr} {J B : Int → Int → Int} {pa : Arguments} {bo : Expr} {sc : Scope} {po : Pos} {f c' cj cb : Addr} {oj ob : Obj} {pm ctv : Value} {nm : Str}
    (hlam : lamIn (hd.heap_39 w.params) = some (pa, bo, sc, po)) (ho : h.get? f = some (kla_obj nm lamQual pa bo sc [(Str.ofString "join", cj), (Str.ofString "bind", cb)] pm c' ctv)) (hcd : h.CodeRec (.ref c') lamQual)
    (hcj : h.get? cj = some oj) (hdj : oj.data = .cell (some (.ref j))) (hcb : h.get? cb = some ob) (hdb : ob.data = .cell (some (.ref b)))
    (hjn : FnAt j h) (hbn : FnAt b h) (hj : Fun2 w p loose mean mg mb D h (fun _ => True) (.ref j) J) (hb : Fun2 w p loose mean mg mb D h P (.ref b) B) :
    FunG w p loose mean mg mb (D + 2) h RL (RowS P) (fun ns => 0 < ns.length ∧ ns.length < 1000) (.ref f) (laid J B) := by
  cases hlam
  rintro h' v e ns x hst ⟨a, vs, n, rfl, hi, hv⟩ ⟨hPx, r, t, rfl, hr⟩ ⟨hpos, hlt⟩
  have hv' : h'.get? a = some (listOf vs.toArray n) := hv.elim id (fun q => nomatch q)
  obtain ⟨n0, ns, rfl⟩ : ∃ n0 ns', ns = n0 :: ns' := by
    cases ns with
    | nil => simp at hpos
    | cons n0 ns' => exact ⟨n0, ns', rfl⟩
  have hl : h'.IsList a vs.toArray := ⟨_, hv', rfl, n, rfl⟩
  refine' enterL (binds := [(Str.ofString "told", .ref a), (Str.ofString "one", .ref r)]) (hst _ _ ho) (hcd.keeps hst) ?k9 ?kB ?kS ?c2 ?c3 ?c4 ?c5 ?cD
  case k9 => exact rfl
  case kB => exact locs rfl
  case c2 => exact rfl
  case c3 => exact rfl
  case c4 => exact rfl
  case c5 => decide
  case cD => exact Nat.succ_pos _
  intro dp un gd env outer A₀ base g L' h₁ s hs hdp hun hke F N Bl X T
  k_fold
  have hlg : g.IsList a vs.toArray := stays_list hs hl
  have hrg : g.IsList r [Value.int x t].toArray := stays_list hs hr
  have hjg : g.get? cj = some oj := hs _ _ (hst _ _ hcj)
  have hbg : g.get? cb = some ob := hs _ _ (hst _ _ hcb)
  have hjn' : FnAt j g := fnat_keep hjn (stays_trans hst hs)
  have hbn' : FnAt b g := fnat_keep hbn (stays_trans hst hs)
  have hll : ns.length < 1000 := by simp at hlt; omega
  k_with_none
  k_with "m call" =>
    refine tr_use (laid_spec (h := g) hjn' hbn' (fun x y t u hP => tr_mono (hj x y t u hP) (stays_trans hst hs)) (fun x y t u hP => tr_mono (hb x y t u hP) (stays_trans hst hs)) hPx hlg hi hll) (by k_asm) (by k_asm) (by k_asm) (by k_asm) (by k_asm) (by first | exact rfl | assumption) (by exact Fr.keep (by k_asm)) (by ktr_room) (by ktr_units) ?_
    rename Fr _ _ _ _ => Fx
    intro r9 h9 tk9 F9 N9 k9 o9
    obtain ⟨own9, hO9, hR9⟩ := o9
    have hO9' := newOwn_base Fx hO9
    (try dsimp only)
  k_with "m free" =>
    first
      | (with_reducible show wpAny _ _ (eval (Expr.Name (Str.ofString "join") _) _) _ _ _); k_dflt (refine nameX_FB (c := cj) (o := oj) (by k_asm) hjg rfl hdj ?_)
      | (with_reducible show wpAny _ _ (eval (Expr.Name (Str.ofString "bind") _) _) _ _ _); k_dflt (refine nameX_FB (c := cb) (o := ob) (by k_asm) hbg rfl hdb ?_)
  k_steps
  exact back_ F9 ⟨own9, hO9', hR9⟩
end Mine

-- part C7
namespace Mine
open PySem PySem.W PySem.Spec PySem.Calls PyProof.Rows

section
variable {prog : Program} {w : World} {A : Around} {h₀ : Heap} {L : Addr} {m : Str → Option Value} {env : Env} {elt : Expr} {x : Str} {scope : Scope} {cl : List (Str × Addr)} {s : Shared} {S : List (Addr × Obj) → Prop} {P : Nat → Value → Prop} {Fin : List Value → List (Addr × Obj) → Prop}
/-- a comprehension's turns by what holds of what it has made so far -/
theorem comp_inv (J : Nat → List Value → List (Addr × Obj) → Prop) (n : Nat)
    (step : ∀ i ys news, i < n → J i ys news → ∀ v I oI C oC D m₂ h tk (E' : Value → Shared → Prop), P i v → LCg.NsObj oC m₂ → m₂ x = some v → Fr h₀ L h m → News h₀ L h ((I, oI) :: (C, oC) :: (D, LCg.lst ys) :: news) → LCg.Off3 I C D news → ((@Ne Nat I C) ∧ (@Ne Nat I D) ∧ (@Ne Nat C D)) →
      wpAny (model prog w) A (eval elt (compEnvC scope cl C env)) (LCg.CompEnd h₀ L m { s with heap := h, toks := tk } I oI C oC D (LCg.lst ys) S (fun y news' => J (i + 1) (ys ++ [y]) news')) E' { s with heap := h, toks := tk })
    (fin : ∀ ys news, J n ys news → Fin ys news) : ∀ (k i : Nat) (ys : List Value) (news : List (Addr × Obj)), i + k = n → J i ys news → LCg.CompRest prog w A h₀ L m env elt x scope cl s S P Fin k i ys news := by
  intro k
  induction k with
  | zero => intro i ys news hi hj; exact LCg.CompRest.zero (fin _ _ (by rw [← hi]; exact hj))
  | succ k ih =>
    intro i ys news hi hj
    refine LCg.CompRest.succ fun v I oI C oC D m₂ h tk E' a1 a2 a3 a4 a5 a6 a7 => ?_
    refine wpAny_mono (step i ys news (by omega) hj v I oI C oC D m₂ h tk E' a1 a2 a3 a4 a5 a6 a7) (fun y s' hq => ?_) fun _ _ e => e
    obtain ⟨h', tk', news', e, F, N, o3, hS, r⟩ := hq
    exact ⟨h', tk', news', e, F, N, o3, hS, ih (i + 1) _ _ (by omega) r⟩
end

noncomputable def red (F : Int → Int → Int) : List Int → Int
  | [] => 0
  | a :: r => r.foldl F a
/-- a choice, a group, the groups, in the heap -/
noncomputable def ChS (P : Int → Prop) (h : Heap) (v : Value) (c : List Int) : Prop := (∀ x ∈ c, P x) ∧ 0 < c.length ∧ c.length < 1000 ∧ ∃ (a : Addr) (vs : List Value), v = .ref a ∧ h.IsList a vs.toArray ∧ IntsAre vs c
noncomputable def GrpS (P : Int → Prop) (h : Heap) (v : Value) (css : List (List Int)) : Prop := 0 < css.length ∧ css.length < 1000 ∧ ∃ (a : Addr) (vs : List Value), v = .ref a ∧ h.IsList a vs.toArray ∧ vs.length = css.length ∧ ∀ (i : Nat) e c, vs[i]? = some e → css[i]? = some c → ChS P h e c
noncomputable def GrpsS (P : Int → Prop) (h : Heap) (v : Value) (gss : List (List (List Int))) : Prop := gss.length < 1000 ∧ ∃ (a : Addr) (vs : List Value), v = .ref a ∧ h.IsList a vs.toArray ∧ vs.length = gss.length ∧ ∀ (i : Nat) e c, vs[i]? = some e → gss[i]? = some c → GrpS P h e c
theorem chS_stays {P : Int → Prop} {h h' : Heap} {v : Value} {c : List Int} (x : ChS P h v c) (k : h.StaysIn h') : ChS P h' v c := let ⟨a1, a2, a3, a, vs, e, hl, hi⟩ := x; ⟨a1, a2, a3, a, vs, e, stays_list k hl, hi⟩
theorem grpS_stays {P : Int → Prop} {h h' : Heap} {v : Value} {c : List (List Int)} (x : GrpS P h v c) (k : h.StaysIn h') : GrpS P h' v c := let ⟨a2, a3, a, vs, e, hl, hi, hc⟩ := x; ⟨a2, a3, a, vs, e, stays_list k hl, hi, fun i e c h1 h2 => chS_stays (hc i e c h1 h2) k⟩
theorem grpsS_stays {P : Int → Prop} {h h' : Heap} {v : Value} {c : List (List (List Int))} (x : GrpsS P h v c) (k : h.StaysIn h') : GrpsS P h' v c := let ⟨a3, a, vs, e, hl, hi, hc⟩ := x; ⟨a3, a, vs, e, stays_list k hl, hi, fun i e c h1 h2 => grpS_stays (hc i e c h1 h2) k⟩

theorem off1_mem {D : Addr} : ∀ {l : List (Addr × Obj)}, LCg.Off1 D l → ∀ q ∈ l, q.1 ≠ D
  | [], _, _, h => nomatch h
  | _ :: _, x, q, h => by
    rcases List.mem_cons.mp h with rfl | h
    · exact x.1
    · exact off1_mem x.2 q h
/-- the table among the objects told or in the ground -/
noncomputable def TabN (g : Heap) (cown : List (Addr × Obj)) (ps : Array Value) : Prop := ∃ c oc vs t, ps = #[rawInt 50, rawInt 20, .ref c] ∧ (g.get? c = some oc ∨ (c, oc) ∈ cown) ∧ oc.data = .fields vs ∧ vs[1]? = some (.str lamQual t) ∧ c ≠ 107
theorem TabN.ok {g h : Heap} {cown : List (Addr × Obj)} {ps : Array Value} (x : TabN g cown ps) (k : g.StaysIn h) (ko : ∀ q ∈ cown, h.get? q.1 = some q.2) : TabOk h ps := by
  obtain ⟨c, oc, vs, t, e, h1 | h1, r⟩ := x
  · exact .inr ⟨c, oc, vs, t, e, k _ _ h1, r⟩
  · exact .inr ⟨c, oc, vs, t, e, ko _ h1, r⟩

theorem lam_two {M : Model} {A : Around} {E : Value → Shared → Prop} {s : Shared} {h₀ : Heap} {L a : Addr} {m mg mb : Str → Option Value} {cn : Str} {cs : Scope} {ccd : Value} {cl : List (Str × Addr)} {rest : List (Addr × Obj)}
    {p : Program} {loose : List Str} {mean : ExcName → Option Value} {params : Arguments} {body : Expr} {scope : Scope} {ps : Array Value} {pos : Pos} {clos : List (Str × Addr)} {Q : Value → Shared → Prop}
    (F : Fr h₀ L s.heap m) (N : News h₀ L s.heap ((107, tabObj ps) :: rest)) (hrest : ∀ q ∈ rest, q.1 ≠ 107) (T : Top p loose mean mg mb h₀) (C : CodeHd h₀ 109 107) (hcd : ccd = .ref 109) (hTab : TabOk h₀ ps)
    (hdef : defaultsOf params (envX cn cs L a ccd cl) = ([], [])) (hl : pos.line = 50) (hc : pos.col = 20) (hq : (envX cn cs L a ccd cl).qual ++ "<lambda>" = lamQual) (hcl : closureFor scope (envX cn cs L a ccd cl) = pure clos)
    (h : ∀ f c' ctv pm h' tk ps' cown, Fr h₀ L h' m → News h₀ L h' ((f, kla_obj "<lambda>" lamQual params body scope clos pm c' ctv) :: (107, tabObj ps') :: (rest ++ cown)) → TabN h₀ cown ps' → h'.CodeRec (.ref c') lamQual → Q (.ref f) { s with heap := h', toks := tk }) :
    wpAny M A (eval (.Lambda params body scope pos) (envX cn cs L a ccd cl)) Q E s := by
  refine kla_eval hdef ?_
  rw [hq]
  rcases hTab with rfl | ⟨c, oc, vs, t, rfl, hc1, hd1, hv1, hne⟩
  · refine kla_nest F N T C hcd (UpdF.head hrest) trivial rfl hcl fun f c' oc vs t ctv h' tk F' N' e1 e2 l1 l2 => ?_
    rw [hl, hc] at N'
    refine h f c' ctv ((mg (Str.ofString "__name__")).getD .none) h' tk #[rawInt 50, rawInt 20, .ref c'] [(c', oc)] F' (fun q hq => N' q ?_) ⟨c', oc, vs, t, ?_, .inr (.head _), e1, e2, ?_⟩ ⟨c', oc, vs, t, rfl, (N' _ (.tail _ (.head _))).1, e1, e2⟩
    · simp only [List.mem_cons, List.mem_append, List.mem_singleton, List.not_mem_nil, or_false] at hq ⊢
      rcases hq with h1 | h1 | h1 | h1
      · exact .inl h1
      · exact .inr (.inr (.inl h1))
      · exact .inr (.inr (.inr h1))
      · exact .inr (.inl h1)
    · rfl
    · exact Nat.ne_of_gt (l1 _ (.head _))
  · refine kla_hit F N T C hcd (.head _) ?_ (c' := c) ?_ hcl fun f ctv h' tk F' N' l1 => ?_
    · simp [TriplesOk, rawInt]
    · simp [codeAmong, rawInt, hl, hc]
    · refine h f c ctv ((mg (Str.ofString "__name__")).getD .none) h' tk _ [] F' ?_ ⟨c, oc, vs, t, rfl, .inl hc1, hd1, hv1, hne⟩ ⟨c, oc, vs, t, rfl, F'.keep _ _ hc1, hd1, hv1⟩
      rw [List.append_nil]; exact N'

theorem red2i {w : World} {p : Program} {loose : List Str} {mean : ExcName → Option Value} {mg mb : Str → Option Value} {h : Heap} {D : Nat} {f l : Addr} {gg : Int → Int → Int} {vs : List Value} {n : Int} {ns : List Int}
    (hfn : FnAt f h) (hf : Fun2 w p loose mean mg mb D h (fun _ => True) (.ref f) gg) (hl : h.IsList l vs.toArray) (hi : IntsAre vs (n :: ns)) :
    Tr w p loose mean mg mb (D + 1) (call (.ref 23) [.ref f, .ref l]) h (fun _ _ r => ∃ t, r = .int (ns.foldl gg n) t) := by
  obtain ⟨t0, vs', rfl, hi'⟩ := hi.cons_inv
  have C := red2 (α := Int) (β := Int) (R := fun _ own v a => own = [] ∧ ∃ t, v = Value.int a t) (S := fun _ e b => ∃ t, e = Value.int b t) (Ok := fun _ => True) (st := gg) (bs := ns) (a0 := n) (h := h)
    (fun _ _ own v a x _ _ => ⟨rfl, x.2⟩) (fun _ _ _ _ x _ => x) hfn
    (fun h' v e a b hst hR hS _ => by
      obtain ⟨_, t, rfl⟩ := hR
      obtain ⟨u, rfl⟩ := hS
      intro dp un gd cn cs a' ccd cl outer A₀ base h₀ L m s Q E B F X T hk hs hd hu ret
      exact hf a b t u trivial _ _ _ _ _ _ _ _ _ _ _ _ _ _ _ _ _ B F X T hk (stays_trans hst hs) hd hu (fun r h'' tk' F' k o => ret r h'' tk' F' k ⟨[], (by intro q hq; cases hq), fun _ => ⟨rfl, o⟩⟩))
    (fun _ _ => trivial) hl hi'.length (fun i e b he hb => by obtain ⟨n', t, e1, e2⟩ := hi'.at i e he; rw [e2] at hb; cases hb; exact ⟨t, e1⟩) ⟨rfl, t0, rfl⟩ (.inr fun _ => ⟨rfl, t0, rfl⟩)
  intro dp un gd cn cs a' ccd cl outer A₀ base h₀ L m s Q E B F X T hk hs hd hu ret
  exact C _ _ _ _ _ _ _ _ _ _ _ _ _ _ _ _ _ B F X T hk hs hd hu (fun r h'' tk' F' k o => ret r h'' tk' F' k (by obtain ⟨own, _, h⟩ := o; exact (h h'').2))
theorem laidT_len (J B : Int → Int → Int) (x : Int) : ∀ (ns : List Int) (n0 : Int), (laidT J B x n0 ns).length = ns.length + 1
  | [], _ => rfl
  | n :: r, _ => by rw [laidT, List.length_cons, laidT_len J B x r n, List.length_cons]
theorem laid_len (J B : Int → Int → Int) (x : Int) (ns : List Int) (h : 0 < ns.length) : (laid J B ns x).length = ns.length + 1 := by
  cases ns with
  | nil => simp at h
  | cons n r => rw [laid, List.length_cons, laidT_len, List.length_cons]
theorem foldl_laid_len' (J B : Int → Int → Int) : ∀ (xs ns : List Int), 0 < ns.length → (xs.foldl (laid J B) ns).length = ns.length + xs.length
  | [], _, _ => rfl
  | x :: r, ns, h => by rw [List.foldl_cons, foldl_laid_len' J B r _ (by rw [laid_len _ _ _ _ h]; omega), laid_len _ _ _ _ h, List.length_cons]; omega
theorem foldl_laid_len (J B : Int → Int → Int) (xs : List Int) (n : Int) : (xs.foldl (laid J B) [n]).length = xs.length + 1 := by
  rw [foldl_laid_len' J B xs [n] (by simp)]; simp; omega
theorem rl_own {own : List (Addr × Obj)} {v : Value} {ns : List Int} (g : Heap) (x : ∀ hb, RL hb own v ns) : ∃ (a : Addr) (vs : List Value) (n : Nat), v = .ref a ∧ IntsAre vs ns ∧ (a, listOf vs.toArray n) ∈ own := by
  obtain ⟨a, vs, n, e, hi, h1 | h1⟩ := x { g with objs := #[] }
  · rw [Heap.get?_none_of_le (Nat.zero_le _)] at h1; cases h1
  · exact ⟨a, vs, n, e, hi, h1⟩
theorem stmt_mid {M : Model} {A : Around} {s : Shared} {st : Stmt} {env : Env} {Q : Flow → Shared → Prop} (Mid : Shared → Prop) (h1 : wpAny M A (exec st env) (Nx Mid) (fun _ _ => False) s) (h2 : ∀ s', Mid s' → Q .next s') : wpAny M A (exec st env) Q (fun _ _ => False) s :=
  wpAny_mono h1 (fun f s' hq => by obtain ⟨rfl, hm⟩ := hq; exact h2 s' hm) fun _ _ e => e

noncomputable abbrev mTwo (l gr Dr fo Pk : Addr) (el bd : Option Value) : Str → Option Value := fun y =>
  if y = Str.ofString "bound" then bd else if y = Str.ofString "group" then el else if y = Str.ofString "picked" then some (.ref Pk) else if y = Str.ofString "folded" then some (.ref fo) else if y = Str.ofString "rows" then some (.ref Dr) else
  if y = Str.ofString "groups" then some (.ref gr) else if y = Str.ofString "numbers" then some (.ref l) else none
theorem mTwo_start (l gr Dr fo Pk : Addr) : (fun y => if y = Str.ofString "picked" then some (Value.ref Pk) else if y = Str.ofString "folded" then some (.ref fo) else if y = Str.ofString "rows" then some (.ref Dr) else
    if y = Str.ofString "groups" then some (.ref gr) else if y = Str.ofString "numbers" then some (.ref l) else none) = mTwo l gr Dr fo Pk none none := by
  funext y
  unfold mTwo
  by_cases h1 : y = Str.ofString "bound"
  · subst h1; rfl
  · by_cases h2 : y = Str.ofString "group"
    · subst h2; rfl
    · rw [if_neg h1, if_neg h2]
theorem mTwo_turn (l gr Dr fo Pk : Addr) (el bd : Option Value) (e b : Value) : (fun z => if z = Str.ofString "bound" then some b else if z = Str.ofString "group" then some e else mTwo l gr Dr fo Pk el bd z) = mTwo l gr Dr fo Pk (some e) (some b) := by
  funext y
  unfold mTwo
  by_cases h1 : y = Str.ofString "bound"
  · simp only [h1, if_true]
  · by_cases h2 : y = Str.ofString "group"
    · simp only [h2, if_true]
    · simp only [h1, h2, if_false]
noncomputable def pickV (J B : Int → Int → Int) (css : List (List Int)) : Int := red J (css.map (red B))

noncomputable def tup2 (a b : Value) (n : Nat) : Obj := { cls := .type "tuple", data := .seq [a, b].toArray n }
/-- what _law_two_roads hands back -/
noncomputable def Out2 (fo pi : List Int) (h0 h'' : Heap) (r : Value) : Prop := ∃ (T Fo Pi : Addr) (fvs pvs : List Value) (c1 c2 ct : Nat), r = .ref T ∧
  NewOwn h0 h'' [(T, tup2 (.ref Fo) (.ref Pi) ct), (Pi, listOf pvs.toArray c2), (Fo, listOf fvs.toArray c1)] ∧ IntsAre fvs fo ∧ IntsAre pvs pi ∧ Fo < Pi ∧ Pi < T

local macro_rules | `(tactic| walk_at "call builtin:list.append") => `(tactic| k_extra "m append")
local macro_rules | `(tactic| walk_at "eval Lambda") => `(tactic| k_extra "m lam")
local macro_rules | `(tactic| walk_at "exec Assign cons ListComp") => `(tactic| (k_dflt (refine LCg.Assign_ListComp_U (F₀ := by k_asm) (by rfl) (by with_unfolding_all rfl) (by with_unfolding_all rfl) (by decide) (by rfl) (by decide) (by rfl) (by rfl) (by rfl) ?_)))
local macro_rules | `(tactic| walk_at "CompSrc") => `(tactic| refine stop_here ?_)
local macro_rules | `(tactic| walk_at "CompEnd") => `(tactic| refine stop_here ?_)
local macro_rules | `(tactic| walk_at "exec Assign cons Call") => `(tactic| k_extra "m stop")
local macro_rules | `(tactic| walk_at "exec For Name Name cons nil") => `(tactic| refine stop_here ?_)
variable {w : World} {p : Program} {loose : List Str} {mean : ExcName → Option Value} {mg mb : Str → Option Value} {h : Heap} {D : Nat} {P : Int → Prop} {l gr : Addr} {vs : List Value} {ns : List Int} {gss : List (List (List Int))}

set_option maxHeartbeats 8000000 in
theorem two_spec {j b : Addr} {J B : Int → Int → Int} {n0 : Int} (hjn : FnAt j h) (hbn : FnAt b h) (hj : Fun2 w p loose mean mg mb D h (fun _ => True) (.ref j) J) (hb : Fun2 w p loose mean mg mb D h P (.ref b) B)
    (hl : h.IsList l vs.toArray) (hi : IntsAre vs (n0 :: ns)) (hP : ∀ x ∈ n0 :: ns, P x) (hne : ns ≠ []) (hlen : ns.length < 900) (hgr : GrpsS P h (.ref gr) gss) :
    TrT w p loose mean mg mb (D + 4) (call (.ref 110) [.ref j, .ref b, .ref l, .ref gr]) h (Out2 (ns.foldl (laid J B) [n0]) (gss.map (pickV J B))) := by
  refine' enterT (binds := [(Str.ofString "join", .ref j), (Str.ofString "bind", .ref b), (Str.ofString "numbers", .ref l), (Str.ofString "groups", .ref gr)]) ?k6 ?k7 ?k9 ?kB ?kD ?kO ?kS ?c2 ?c3 ?c4 ?cD
  case k6 => k_is
  case k7 => k_is
  case k9 => exact fun s _ => BindsTo.of_eq rfl
  case kB => exact rfl
  case kD => decide +kernel
  case kO => exact fun s0 g h' v e ⟨T, Fo, Pi, fvs, pvs, c1, c2, ct, a1, a2, a3⟩ => ⟨T, Fo, Pi, fvs, pvs, c1, c2, ct, a1, fun q hq => ⟨(a2 q hq).1, e ▸ (a2 q hq).2⟩, a3⟩
  case c2 => exact rfl
  case c3 => exact rfl
  case c4 => exact rfl
  case cD => exact Nat.succ_pos _
  intro dp un gd env outer A₀ base g L' h₁ s tk cells ps hs hdp hun hke hgP hTab hLP hC F N Y Bl X T
  k_fold
  k_cells Y
  (try simp only [List.cons_append, List.nil_append] at N)
  have hlg : g.IsList l vs.toArray := stays_list hs hl
  have hjg : FnAt j g := fnat_keep hjn hs
  have hbg : FnAt b g := fnat_keep hbn hs
  rename_i o1 o2 d1 d2
  replace d1 : o1.data = .cell (some (.ref b)) := d1
  replace d2 : o2.data = .cell (some (.ref j)) := d2
  replace F : Fr g L' h₁ (fun y => if y = Str.ofString "groups" then some (.ref gr) else if y = Str.ofString "numbers" then some (.ref l) else none) := F
  k_steps
  unfold Stop
  have hvl : vs.length = ns.length + 1 := hi.length
  refine LCg.CompSrc.base rfl F N hlg (by rw [List.size_toArray, hvl, sizeLine_eq]; omega) fun gx => comp_inv
    (fun i ys news => ∃ own, news = own ++ [(L' + 1 + 1, o1), (L' + 1, o2), (107, tabObj ps)] ∧ ys.length = i ∧ (∀ q ∈ own, L' + 1 + 1 < q.1) ∧ ∀ (k : Nat) y, ys[k]? = some y → ∃ x a t, (n0 :: ns)[k]? = some x ∧ y = .ref a ∧ (a, listOf #[Value.int x t] 0) ∈ own) vs.length ?_ ?_ _ 0 _ _ (by simp) ⟨[], rfl, rfl, (by intro q hq; cases hq), (by intro k y hy; simp at hy)⟩
  · rintro i ys news hlt ⟨own, rfl, hyl, hoa, hys⟩ v I oI C oC D' m₂ h2 tk2 E' hv hns hm2 F2 N2 hoff hne3
    obtain ⟨x, tx, rfl, hx⟩ := hi.at i v (by simpa using hv)
    k_steps
    rename_i l' h' F' N' l1
    unfold Stop
    obtain ⟨a1, a2, a3, a4⟩ := l1
    refine LCg.CompEnd.intro F' N' ((l', listOf #[Value.int x tx] 0) :: (own ++ [(L' + 1 + 1, o1), (L' + 1, o2), (107, tabObj ps)])) (fun q hq => ?_) ⟨⟨Nat.ne_of_gt a1, Nat.ne_of_gt a2, Nat.ne_of_gt a3⟩, hoff⟩ (.inl hlg) ⟨(l', listOf #[Value.int x tx] 0) :: own, rfl, by simp [hyl], ?_, ?_⟩
    · simp only [List.mem_cons] at hq ⊢
      rcases hq with h | h | h | h | h
      · exact .inr (.inl h)
      · exact .inr (.inr (.inl h))
      · exact .inr (.inr (.inr (.inl h)))
      · exact .inl h
      · exact .inr (.inr (.inr (.inr h)))
    · intro q hq
      rcases List.mem_cons.mp hq with rfl | hq
      · exact ktn_ltOf a4 _ (List.mem_append.mpr (.inr (.head _)))
      · exact hoa q hq
    · intro k y hy
      rcases Nat.lt_or_ge k ys.length with hk | hk
      · rw [List.getElem?_append_left hk] at hy
        obtain ⟨x', a', t', e1, e2, e3⟩ := hys k y hy
        exact ⟨x', a', t', e1, e2, .tail _ e3⟩
      · rw [List.getElem?_append_right hk] at hy
        have hk0 : k - ys.length = 0 := by
          cases hkk : k - ys.length with
          | zero => rfl
          | succ n => rw [hkk] at hy; simp at hy
        have hki : k = i := by omega
        rw [hk0] at hy
        simp at hy
        subst hki
        exact ⟨x, l', tx, hx, hy.symm, .head _⟩
  rintro ys news ⟨own, rfl, hyl, hoa, hys⟩
  intro Dr h2 tk2 F2 N2 hoff
  dsimp only
  clear F N
  k_with "m stop" => refine stop_here ?_
  k_steps
  unfold Stop
  have hoffm : ∀ q ∈ own ++ [(L' + 1 + 1, o1), (L' + 1, o2), (107, tabObj ps)], q.1 ≠ Dr := off1_mem hoff
  have N3 : News g L' h2 ((107, tabObj ps) :: (Dr, LCg.lst ys) :: (L' + 1 + 1, o1) :: (L' + 1, o2) :: own) := fun q hq => N2 q (by
    simp only [List.mem_cons, List.mem_append, List.not_mem_nil, or_false] at hq ⊢
    rcases hq with h | h | h | h | h
    · exact .inr (.inr (.inr (.inr h)))
    · exact .inl h
    · exact .inr (.inr (.inl h))
    · exact .inr (.inr (.inr (.inl h)))
    · exact .inr (.inl h))
  have hLP' : @LT.lt Nat _ 107 L' := hLP
  have hrest : ∀ q ∈ (Dr, LCg.lst ys) :: (L' + 1 + 1, o1) :: (L' + 1, o2) :: own, q.1 ≠ 107 := by
    intro q hq
    rcases List.mem_cons.mp hq with rfl | hq
    · exact (hoffm (107, tabObj ps) (by simp)).symm
    rcases List.mem_cons.mp hq with rfl | hq
    · exact neN (by omega)
    rcases List.mem_cons.mp hq with rfl | hq
    · exact neN (by omega)
    · have : @LT.lt Nat _ (L' + 1 + 1) q.1 := hoa q hq
      exact neN (by omega)
  clear N2
  obtain ⟨y0, ys', rfl⟩ : ∃ y0 ys', ys = y0 :: ys' := by
    cases ys with
    | nil => rw [hvl] at hyl; cases hyl
    | cons y0 ys' => exact ⟨y0, ys', rfl⟩
  have hyl' : ys'.length = ns.length := by rw [hvl] at hyl; exact Nat.succ.inj hyl
  obtain ⟨x0, a0, t0, ex0, ey0, em0⟩ := hys 0 y0 rfl
  obtain rfl : n0 = x0 := Option.some.inj ex0
  subst ey0
  refine stmt_mid (fun s' => ∃ (h : Heap) (tk : Nat) (fo : Addr) (fvs : List Value) (c : Nat) (ps' : Array Value) (cown : List (Addr × Obj)), s' = { s with heap := h, toks := tk } ∧
      Fr g L' h (fun y => if y = Str.ofString "folded" then some (.ref fo) else if y = Str.ofString "rows" then some (.ref Dr) else if y = Str.ofString "groups" then some (.ref gr) else if y = Str.ofString "numbers" then some (.ref l) else none) ∧
      News g L' h ((fo, listOf fvs.toArray c) :: (L' + 1 + 1, o1) :: (L' + 1, o2) :: (107, tabObj ps') :: cown) ∧ IntsAre fvs (ns.foldl (laid J B) [n0]) ∧ TabN g cown ps' ∧ L' < fo) ?_ ?_
  · k_with_none
    k_with "m lam" =>
      k_dflt (refine lam_two (by k_asm) (by k_asm) hrest (by k_asm) hC rfl hTab rfl rfl rfl rfl rfl ?_)
      intro f' c' ctv pm h' tk' ps' cown F' N' hTabN hCode
    k_steps
    have hin : ∀ q ∈ (f', _) :: (107, tabObj ps') :: ((Dr, LCg.lst (Value.ref a0 :: ys')) :: (L' + 1 + 1, o1) :: (L' + 1, o2) :: own ++ cown), h'.get? q.1 = some q.2 := fun q hq => (N' q hq).1
    have hgh : g.StaysIn h' := F'.keep
    have hhh : h.StaysIn h' := stays_trans hs hgh
    have hfG := lam_spec (h := h') (w := w) (p := p) (loose := loose) (mean := mean) (mg := mg) (mb := mb) (D := D) (P := P) (J := J) (B := B) (j := j) (b := b) rfl (hin _ (.head _)) hCode (hin (L' + 1, o2) (by simp)) d2 (hin (L' + 1 + 1, o1) (by simp)) d1 (fnat_keep hjn hhh) (fnat_keep hbn hhh) (fun x y t u hP => tr_mono (hj x y t u hP) hhh) (fun x y t u hP => tr_mono (hb x y t u hP) hhh)
    have hmo : ∀ q ∈ own, h'.get? q.1 = some q.2 := fun q hq => hin q (by simp [hq])
    have hlr : h'.IsList Dr (Value.ref a0 :: ys').toArray := ⟨_, hin (Dr, LCg.lst (Value.ref a0 :: ys')) (by simp), rfl, _, rfl⟩
    have hrel : ∀ (i : Nat) e b', ys'[i]? = some e → ns[i]? = some b' → RowS P h' e b' := fun i e b' he hb' => by
      obtain ⟨x, a, t, e1, e2, e3⟩ := hys (i + 1) e (by simpa using he)
      obtain rfl : b' = x := by simpa [hb'] using e1
      exact ⟨hP _ (List.mem_cons_of_mem _ (List.mem_of_getElem? hb')), a, t, e2, ⟨_, hmo _ e3, rfl, _, rfl⟩⟩
    have h00 : RL h' [] (.ref a0) [n0] := ⟨a0, [Value.int n0 t0], 0, rfl, .cons _ _ .nil, .inl (hmo _ em0)⟩
    have hll := foldl_laid_len J B
    k_dflt (refine tr_use (red2 (h := h') (R := RL) (S := RowS P) rl_absorb (rowS_stays P) (f := f') ⟨_, _, _, _, hin _ (.head _)⟩ hfG (fun i hi => ⟨by rw [hll]; simp, by rw [hll]; simp; omega⟩) hlr hyl' hrel h00 (.inl hne)) (by k_asm) (by k_asm) (by k_asm) (by k_asm) (by k_asm) (by first | exact rfl | assumption) (by exact stays_refl _) (by ktr_room) (by ktr_units) ?_)
    intro r9 h9 tk9 F9 N9 k9 o9
    obtain ⟨own9, hO9, hR9⟩ := o9
    obtain ⟨fo, fvs, cf, rfl, hiF, hmF⟩ := rl_own g hR9
    have hLfo : L' < fo := Nat.lt_of_lt_of_le F'.ns.lt (hO9 _ hmF).2
    have N10 : News g L' h9 ((fo, listOf fvs.toArray cf) :: (L' + 1 + 1, o1) :: (L' + 1, o2) :: (107, tabObj ps') :: cown) := fun q hq => by
      rcases List.mem_cons.mp hq with rfl | hq
      · exact newOwn_news F' hO9 _ hmF
      · refine N9 q ?_
        simp only [List.mem_cons, List.mem_append] at hq ⊢
        rcases hq with h | h | h | h
        · exact .inr (.inr (.inl (.inr (.inl h))))
        · exact .inr (.inr (.inl (.inr (.inr (.inl h)))))
        · exact .inr (.inl h)
        · exact .inr (.inr (.inr h))
    clear N9
    (try dsimp only)
    k_steps
    rename_i h8 F8 N8
    exact ⟨rfl, _, _, fo, fvs, cf, ps', cown, rfl, F8, N8, hiF, hTabN, hLfo⟩
  rintro s' ⟨h3, tk3, fo, fvs, cf, ps', cown, rfl, F3, N3', hiF, hTabN, hLfo⟩
  dsimp only
  clear F2 N3 hrest hoffm hoff hoa em0 hys hyl hyl'
  k_with_none
  k_steps
  unfold Stop
  rename_i Pk hx1 l1 h4 F4 N4
  rw [mTwo_start] at F4
  obtain ⟨lP1, lP2, lP3, lP4, lP5⟩ := l1
  obtain ⟨hgl, gra, gvs, egr, hgrl, hgvl, hgrs⟩ := grpsS_stays hgr hs
  cases egr
  have hrest : ∀ q ∈ (fo, listOf fvs.toArray cf) :: (L' + 1 + 1, o1) :: (L' + 1, o2) :: (107, tabObj ps') :: cown, q.1 ≠ Pk := by
    intro q hq
    rcases List.mem_cons.mp hq with rfl | hq
    · exact Nat.ne_of_lt lP1
    rcases List.mem_cons.mp hq with rfl | hq
    · exact Nat.ne_of_lt lP2
    rcases List.mem_cons.mp hq with rfl | hq
    · exact Nat.ne_of_lt lP3
    rcases List.mem_cons.mp hq with rfl | hq
    · exact Nat.ne_of_lt lP4
    · exact Nat.ne_of_lt (ktn_ltOf lP5 q hq)
  have hPI : Pk < h4.objs.size := Heap.lt_size (N4 _ (.head _)).1
  have hgrI : ∀ q ∈ (Pk, listOf #[] 0) :: (fo, listOf fvs.toArray cf) :: (L' + 1 + 1, o1) :: (L' + 1, o2) :: (107, tabObj ps') :: cown, q.1 ≠ h4.objs.size := fun q hq => Nat.ne_of_lt (Heap.lt_size (N4 q hq).1)
  generalize hI : h4.objs.size = I at hPI hgrI
  refine for_it (I := I) (l := gr) (items := gvs.toArray) (i₀ := 0) rfl
    (fun i s₁ => ∃ (pv : List Value) (c : Nat) (el bd : Option Value) (h : Heap) (tk : Nat) (o : Obj), s₁ = { s with heap := h, toks := tk } ∧ Fr g L' h (mTwo l gr Dr fo Pk el bd) ∧
      News g L' h ((Pk, listOf pv.toArray c) :: (I, o) :: (fo, listOf fvs.toArray cf) :: (L' + 1 + 1, o1) :: (L' + 1, o2) :: (107, tabObj ps') :: cown) ∧ ItL o gr i ∧ IntsAre pv ((gss.take i).map (pickV J B)))
    ?_ (Nat.zero_le _) ?_ ?_ ?_
  · k_dflt (refine nameX_L (cn := Str.ofString "_law_two_roads") F4 rfl ?_)
    refine wpAny_pyIter_list (stays_list F4.keep hgrl) ?_
    refine ⟨congrArg Value.ref hI, [], 0, none, none, _, _, { cls := .type "list_iterator", data := .fields #[.ref gr, .int 0 0] }, rfl, F4.push _, fun q hq => ?_, ⟨rfl, rfl⟩, .nil⟩
    have N5 := News.push F4 N4 { cls := .type "list_iterator", data := .fields #[.ref gr, .int 0 0] }
    refine N5 q ?_
    rw [show (h4.objs.size, ({ cls := .type "list_iterator", data := .fields #[.ref gr, .int 0 0] } : Obj)) = (I, _) from by rw [hI]]
    simp only [List.mem_cons] at hq ⊢
    rcases hq with h | h | h
    · exact .inr (.inl h)
    · exact .inl h
    · exact .inr (.inr h)
  · rintro i s₁ ⟨pv, c, el, bd, h5, tk5, o5, rfl, F5, N5, hit5, hpv⟩
    exact ⟨hit5.at (N5 _ (.tail _ (.head _))).1, stays_list F5.keep hgrl⟩
  · rintro i s₁ e hlt ⟨pv, c, el, bd, h5, tk5, o5, rfl, F5, N5, hit5, hpv⟩ hv h6 ⟨o6, ho6, hc6, hd6⟩ hsb
    have hm := N5 (I, o5) (.tail _ (.head _))
    have F6 := F5.change hsb hm.2.1 hm.2.2
    have N6 : News g L' h6 ((Pk, listOf pv.toArray c) :: (I, o6) :: (fo, listOf fvs.toArray cf) :: (L' + 1 + 1, o1) :: (L' + 1, o2) :: (107, tabObj ps') :: cown) := fun q hq => by
      rcases List.mem_cons.mp hq with rfl | hq
      · have := N5 (Pk, listOf pv.toArray c) (.head _)
        exact ⟨(hsb.2 _ (Nat.ne_of_lt hPI)).trans this.1, this.2⟩
      rcases List.mem_cons.mp hq with rfl | hq
      · exact ⟨ho6, hm.2⟩
      · have := N5 q (.tail _ (.tail _ hq))
        exact ⟨(hsb.2 _ (hgrI q (.tail _ hq))).trans this.1, this.2⟩
    have hil : i < gss.length := by rw [← hgvl]; simpa using hlt
    have hgi : gss[i]? = some gss[i] := List.getElem?_eq_getElem hil
    generalize gss[i] = css at hgi
    obtain ⟨hcp, hcl, ga, cvs, rfl, hga, hcvl, hcs⟩ := hgrs i e css (by simpa using hv) hgi
    clear F5 N5 F4 N4
    k_with_none
    k_steps
    unfold Stop
    rename_i h7 F7 N7
    refine LCg.CompSrc.base rfl F7 N7 hga (by rw [List.size_toArray, hcvl, sizeLine_eq]; omega) fun gx => comp_inv
      (fun i ys news => news = (Pk, listOf pv.toArray c) :: (I, o6) :: (fo, listOf fvs.toArray cf) :: (L' + 1 + 1, o1) :: (L' + 1, o2) :: (107, tabObj ps') :: cown ∧ IntsAre ys ((css.take i).map (red B))) cvs.length ?_ ?_ _ 0 _ _ (by simp) ⟨rfl, .nil⟩
    · rintro k ys news hklt ⟨rfl, hys⟩ v Ic oI C oC D' m₂ h8 tk8 E' hv8 hns hm2 F8 N8 hoff hne3
      have hkl : k < css.length := by rw [← hcvl]; exact hklt
      have hgk : css[k]? = some css[k] := List.getElem?_eq_getElem hkl
      generalize css[k] = ch at hgk
      obtain ⟨hcP, hc0, hc1, ca, chv, rfl, hca, hci⟩ := hcs k v ch (by simpa using hv8) hgk
      obtain ⟨c0, cr, rfl⟩ : ∃ c0 cr, ch = c0 :: cr := by
        cases ch with
        | nil => simp at hc0
        | cons c0 cr => exact ⟨c0, cr, rfl⟩
      clear F7 N7
      k_steps
      rename_i cE Sl ws h10 F10 N10 hIw hCw hLw l10 t10
      have hhh : h.StaysIn h10 := stays_trans hs F10.keep
      have hlw : h10.IsList Sl ws.toArray := ⟨_, (N10 _ (.head _)).1, rfl, _, rfl⟩
      k_dflt (refine tr_use (red3 (h := h10) (D := D) (P := P) (gg := B) (ns := cr) (fnat_keep hbn hhh) (fun x y t u hP => tr_mono (hb x y t u hP) hhh) hlw hIw (fun n hn => hcP n (List.mem_cons_of_mem _ hn)) _ _) (by k_asm) (by k_asm) (by k_asm) (by k_asm) (by k_asm) (by first | exact rfl | assumption) (by exact stays_refl _) (by ktr_room) (by ktr_units) ?_)
      intro r9 h9 tk9 F9 N9 k9 o9
      obtain ⟨t9, rfl⟩ := o9
      dsimp only
      k_steps
      unfold Stop
      refine LCg.CompEnd.intro F9 N9 ((Pk, listOf pv.toArray c) :: (I, o6) :: (fo, listOf fvs.toArray cf) :: (L' + 1 + 1, o1) :: (L' + 1, o2) :: (107, tabObj ps') :: cown) (fun q hq => .tail _ hq) hoff (.inl hga) ⟨rfl, ?_⟩
      rw [List.take_succ_eq_append_getElem hkl, List.map_append, (List.getElem?_eq_some_iff.mp hgk).2]
      exact hys.append (.cons _ _ .nil)
    · rintro ys news ⟨rfl, hys⟩
      intro Db h8 tk8 F8 N8 hoff
      dsimp only
      clear F7 N7
      rw [hcvl, List.take_length] at hys
      obtain ⟨d0, dr, rfl⟩ : ∃ d0 dr, css = d0 :: dr := by
        cases css with
        | nil => simp at hcp
        | cons d0 dr => exact ⟨d0, dr, rfl⟩
      have hPkr : ∀ q ∈ (I, o6) :: (fo, listOf fvs.toArray cf) :: (L' + 1 + 1, o1) :: (L' + 1, o2) :: (107, tabObj ps') :: cown, q.1 ≠ Pk := fun q hq => by
        rcases List.mem_cons.mp hq with rfl | hq
        · exact Nat.ne_of_gt hPI
        · exact hrest q hq
      have hpvl : pv.length ≤ gss.length := by rw [hpv.length, List.length_map, List.length_take]; omega
      k_with "m append" =>
        k_dflt (refine append_K (by k_asm) (by k_asm) (Upd.head hPkr) ?_ (by rw [List.size_toArray, sizeLine_eq]; omega))
        intro h' F' N'
      k_steps
      have hhh : h.StaysIn h8 := stays_trans hs F8.keep
      have hlw : h8.IsList Db ys.toArray := ⟨_, (N8 _ (.head _)).1, rfl, _, rfl⟩
      k_dflt (refine tr_use (red2i (h := h8) (D := D) (gg := J) (fnat_keep hjn hhh) (fun x y t u hP => tr_mono (hj x y t u hP) hhh) hlw hys) (by k_asm) (by k_asm) (by k_asm) (by k_asm) (by k_asm) (by first | exact rfl | assumption) (by exact stays_refl _) (by ktr_room) (by ktr_units) ?_)
      intro r9 h9 tk9 F9 N9 k9 o9
      obtain ⟨t9, rfl⟩ := o9
      replace N9 : News g L' h9 ((Pk, listOf pv.toArray c) :: (I, o6) :: (fo, listOf fvs.toArray cf) :: (L' + 1 + 1, o1) :: (L' + 1, o2) :: (107, tabObj ps') :: cown) := fun q hq => N9 q (.tail _ hq)
      clear N8 F8
      dsimp only
      k_steps
      replace F' : Fr g L' h' (mTwo l gr Dr fo Pk (some (.ref ga)) (some (.ref Db))) := mTwo_turn l gr Dr fo Pk el bd (.ref ga) (.ref Db) ▸ F'
      rw [List.push_toArray] at N'
      refine ⟨rfl, _, _, _, _, _, _, o6, rfl, F', N', ⟨hc6, hd6⟩, ?_⟩
      rw [List.take_succ_eq_append_getElem hil, List.map_append, (List.getElem?_eq_some_iff.mp hgi).2]
      exact hpv.append (.cons _ _ .nil)
  · rintro s₁ ⟨pv, c, el, bd, h5, tk5, o5, rfl, F5, N5, hit5, hpv⟩ h6 hx
    have hm := N5 (I, o5) (.tail _ (.head _))
    have F6 : Fr g L' h6 (mTwo l gr Dr fo Pk el bd) := ⟨F5.ns.extBut hx hm.2.1.symm, fun b ob e => hx b ob (fun q => by rw [q, hm.2.2] at e; cases e) (F5.keep b ob e), F5.above⟩
    have N6 : News g L' h6 ((Pk, listOf pv.toArray c) :: (fo, listOf fvs.toArray cf) :: (L' + 1 + 1, o1) :: (L' + 1, o2) :: (107, tabObj ps') :: cown) := fun q hq => by
      rcases List.mem_cons.mp hq with rfl | hq
      · have := N5 (Pk, listOf pv.toArray c) (.head _)
        exact ⟨hx _ _ (Nat.ne_of_lt hPI) this.1, this.2⟩
      · have := N5 q (.tail _ (.tail _ hq))
        exact ⟨hx _ _ (hgrI q (.tail _ hq)) this.1, this.2⟩
    have hsz : gvs.toArray.size = gss.length := by rw [List.size_toArray]; exact hgvl
    rw [hsz, List.take_length] at hpv
    clear F5 N5 F4 N4
    k_with_none
    dsimp only
    k_steps
    rename_i T' h7 F7 N7 l7
    have hgL := F7.above
    refine ⟨_, h7, tk5, ps', rfl, F7, (N7 (107, tabObj ps') (by simp)).1, hTabN.ok F7.keep (fun q hq => (N7 q (by simp [hq])).1), ?_⟩
    have hgfo : g.objs.size ≤ fo := Nat.le_trans hgL (Nat.le_of_lt hLfo)
    refine ⟨T', fo, Pk, fvs, pv, cf, c, 0, rfl, fun q hq => ?_, hiF, hpv, lP1, l7.1⟩
    simp only [List.mem_cons, List.not_mem_nil, or_false] at hq
    rcases hq with rfl | rfl | rfl
    · exact ⟨(N7 _ (.head _)).1, Nat.le_trans hgfo (Nat.le_of_lt (Nat.lt_trans lP1 l7.1))⟩
    · exact ⟨(N7 _ (.tail _ (.head _))).1, Nat.le_trans hgfo (Nat.le_of_lt lP1)⟩
    · exact ⟨(N7 _ (.tail _ (.tail _ (.head _)))).1, hgfo⟩
end Mine

-- part C8
namespace Mine
open PySem PySem.W PySem.Spec PySem.Calls PyProof.Rows

/-- what _law_product reckons -/
noncomputable def wholeV (told : List Int) (pt : Int) : Nat → Int
  | 0 => 1
  | j + 1 => wholeV told pt j + told.getD j 0 * pt ^ (j + 1)
noncomputable def prodV (ns : List Int) (pt : Int) : Nat → Int
  | 0 => 1
  | j + 1 => prodV ns pt j * (1 + pt * ns.getD j 0)

noncomputable abbrev mPr (l lt : Addr) (pl pr wh pt : Option Value) : Str → Option Value := fun y => if y = Str.ofString "place" then pl else if y = Str.ofString "product" then pr else if y = Str.ofString "whole" then wh else if y = Str.ofString "point" then pt else List.lookup y [(Str.ofString "numbers", Value.ref l), (Str.ofString "told", Value.ref lt)].reverse
theorem mPr_start (l lt : Addr) : (fun y => List.lookup y [(Str.ofString "numbers", Value.ref l), (Str.ofString "told", Value.ref lt)].reverse) = mPr l lt none none none none := by
  funext y
  by_cases h0 : y = Str.ofString "place"
  · subst h0; rfl
  by_cases h1 : y = Str.ofString "product"
  · subst h1; rfl
  by_cases h2 : y = Str.ofString "whole"
  · subst h2; rfl
  by_cases h3 : y = Str.ofString "point"
  · subst h3; rfl
  simp only [mPr, h0, h1, h2, h3, if_false]
theorem mPr_inner (l lt : Addr) (pl pr wh pt : Option Value) (v w x : Value) : (fun y => if y = Str.ofString "product" then some w else if y = Str.ofString "whole" then some x else if y = Str.ofString "point" then some v else mPr l lt pl pr wh pt y) = mPr l lt pl (some w) (some x) (some v) := by
  funext y
  by_cases h0 : y = Str.ofString "place"
  · subst h0; rfl
  by_cases h1 : y = Str.ofString "product"
  · subst h1; rfl
  by_cases h2 : y = Str.ofString "whole"
  · subst h2; rfl
  by_cases h3 : y = Str.ofString "point"
  · subst h3; rfl
  simp only [mPr, h0, h1, h2, h3, if_false]
theorem mPr_turn (l lt : Addr) (pl pr wh pt : Option Value) (v w x : Value) : (fun y => if y = Str.ofString "product" then some w else if y = Str.ofString "whole" then some x else if y = Str.ofString "place" then some v else mPr l lt pl pr wh pt y) = mPr l lt (some v) (some w) (some x) pt := by
  funext y
  by_cases h0 : y = Str.ofString "place"
  · subst h0; rfl
  by_cases h1 : y = Str.ofString "product"
  · subst h1; rfl
  by_cases h2 : y = Str.ofString "whole"
  · subst h2; rfl
  by_cases h3 : y = Str.ofString "point"
  · subst h3; rfl
  simp only [mPr, h0, h1, h2, h3, if_false]
theorem pow_small : ∀ i : Nat, i < 4 → ∀ j : Nat, j < 4 → 0 ≤ (1 + (i : Int)) ^ (0 + (j : Int) + 1).toNat ∧ (1 + (i : Int)) ^ (0 + (j : Int) + 1).toNat ≤ 256 := by decide
theorem mul_small {i : Nat} {n : Int} (hi : i < 4) (h1 : -128 ≤ n) (h2 : n ≤ 127) : -1000 ≤ (1 + (i : Int)) * n ∧ (1 + (i : Int)) * n ≤ 1000 := by
  have : i = 0 ∨ i = 1 ∨ i = 2 ∨ i = 3 := by omega
  rcases this with rfl | rfl | rfl | rfl <;> omega
local macro_rules | `(tactic| walk_at "binaryOp Mult int int") => `(tactic| k_extra "m mul")
local macro_rules | `(tactic| walk_at "inplaceOp Mult int int") => `(tactic| k_extra "m imul")
local macro_rules | `(tactic| walk_at "exec For Name Call cons nil") => `(tactic| k_extra "m stop")
variable {w : World} {p : Program} {loose : List Str} {mean : ExcName → Option Value} {mg mb : Str → Option Value} {h : Heap} {l lt : Addr} {vs tvs : List Value} {ns ts : List Int}
set_option maxHeartbeats 8000000 in
theorem product_spec (hl : h.IsList l vs.toArray) (hi : IntsAre vs ns) (hlt : h.IsList lt tvs.toArray) (hit : IntsAre tvs ts) (hlen : ns.length ≤ 4) (hts : ts.length = ns.length) (hsm : ∀ x ∈ ns, -128 ≤ x ∧ x ≤ 127)
    (heq : ∀ i : Nat, i < ns.length → wholeV ts (1 + (i : Int)) ns.length = prodV ns (1 + (i : Int)) ns.length) :
    Tr w p loose mean mg mb 1 (call (.ref 122) [.ref l, .ref lt]) h (fun _ _ r => r = .bool true) := by
  refine' enter0 (binds := [(Str.ofString "numbers", .ref l), (Str.ofString "told", .ref lt)]) ?k6 ?k7 ?k9 ?kB ?kS ?c2 ?c3 ?c4 ?c5 ?cD
  case k6 => k_is
  case k7 => k_is
  case k9 => exact fun s _ => BindsTo.of_eq rfl
  case kB => exact locs rfl
  case c2 => exact rfl
  case c3 => exact rfl
  case c4 => exact rfl
  case c5 => decide
  case cD => exact Nat.succ_pos _
  intro dp un gd env outer A₀ base g L' h₁ s hs hdp hun hke F N Bl X T
  k_fold
  have hlg : g.IsList l vs.toArray := stays_list hs hl
  have hltg : g.IsList lt tvs.toArray := stays_list hs hlt
  k_with_none
  k_with "m stop" => refine stop_here ?_
  k_steps
  unfold Stop
  have hvl : vs.length = ns.length := hi.length
  have htl : tvs.length = ts.length := hit.length
  rw [mPr_start] at F
  refine for_rg (a0 := 1) (n := ns.length) rfl
    (fun I i s₁ => ∃ (pl pr wh pt : Option Value) (h : Heap) (tk : Nat), s₁ = { s with heap := h, toks := tk } ∧ Fr g L' h (mPr l lt pl pr wh pt) ∧ News g L' h [(I, itR (1 + (i : Int)) ((ns.length : Int) - (i : Int)))]) ?_ ?_ ?_ ?_
  · k_steps
    refine rg_at (by assumption) (small_one (by omega) (by omega) (by omega) (by omega)) (by rw [rangeSize_nat]; omega) (by assumption) (by assumption) ?_
    intro I h3 F3 N3 l3
    refine ⟨none, none, none, none, h3, _, rfl, F3, ?_⟩
    simpa using N3
  · rintro I i s₁ ⟨pl, pr, wh, pt, h3, tk3, rfl, F3, N3⟩
    exact (N3 _ (.head _)).1
  · rintro I i s₁ hilt ⟨pl, pr, wh, pt, h3, tk3, rfl, F3, N3⟩ h4 hit4 hsb
    have hm := N3 _ (.head _)
    have F4 := F3.change hsb hm.2.1 hm.2.2
    have N4 : News g L' h4 [(I, itR (1 + ((i + 1 : Nat) : Int)) ((ns.length : Int) - ((i + 1 : Nat) : Int)))] := fun q hq => by
      cases List.mem_singleton.mp hq
      exact ⟨hit4, hm.2⟩
    clear F3 N3 F N hsb
    dsimp only
    k_steps
    unfold Stop
    rename_i hz1 hz2 h5 F5 N5
    rw [mPr_inner] at F5
    refine for_rg (a0 := 0) (n := ns.length) rfl
      (fun I2 j s₁ => ∃ (pl : Option Value) (tp tw : Tok) (h : Heap) (tk : Nat), s₁ = { s with heap := h, toks := tk } ∧ Fr g L' h (mPr l lt pl (some (.int (prodV ns (1 + (i : Int)) j) tp)) (some (.int (wholeV ts (1 + (i : Int)) j) tw)) (some (.int (1 + (i : Int)) tk3))) ∧
        News g L' h [(I2, itR (0 + (j : Int)) ((ns.length : Int) - (j : Int))), (I, itR (1 + ((i + 1 : Nat) : Int)) ((ns.length : Int) - ((i + 1 : Nat) : Int)))] ∧ I < I2) ?_ ?_ ?_ ?_
    · k_steps
      refine rg_at (by assumption) (small_one (by omega) (by omega) (by omega) (by omega)) (by rw [rangeSize_nat]; omega) (by assumption) (by assumption) ?_
      intro I2 h6 F6 N6 l6
      refine ⟨pl, _, _, h6, _, rfl, F6, ?_, l6 _ (.head _)⟩
      simpa using N6
    · rintro I2 j s₁ ⟨pl2, tp, tw, h6, tk6, rfl, F6, N6, hII⟩
      exact (N6 _ (.head _)).1
    · rintro I2 j s₁ hjlt ⟨pl2, tp, tw, h6, tk6, rfl, F6, N6, hII⟩ h7 hit7 hsb7
      have hm7 := N6 _ (.head _)
      have F7 := F6.change hsb7 hm7.2.1 hm7.2.2
      have N7 : News g L' h7 [(I2, itR (0 + ((j + 1 : Nat) : Int)) ((ns.length : Int) - ((j + 1 : Nat) : Int))), (I, itR (1 + ((i + 1 : Nat) : Int)) ((ns.length : Int) - ((i + 1 : Nat) : Int)))] := fun q hq => by
        rcases List.mem_cons.mp hq with rfl | hq
        · exact ⟨hit7, hm7.2⟩
        · cases List.mem_singleton.mp hq
          have := N6 _ (.tail _ (.head _))
          exact ⟨(hsb7.2 _ (Nat.ne_of_lt hII)).trans this.1, this.2⟩
      have hnj : -128 ≤ ns.getD j 0 ∧ ns.getD j 0 ≤ 127 := by
        rw [List.getD_eq_getElem?_getD, List.getElem?_eq_getElem hjlt]
        exact hsm _ (List.getElem_mem hjlt)
      clear F6 N6 F5 N5 hsb7
      have hi4 : i < 4 := by omega
      have hj4 : j < 4 := by omega
      have hpw := pow_small i hi4 j hj4
      have hnj' : -128 ≤ ns.getD (0 + (j : Int)).toNat 0 ∧ ns.getD (0 + (j : Int)).toNat 0 ≤ 127 := by rw [show (0 + (j : Int)).toNat = j from by omega]; exact hnj
      have hms := mul_small hi4 hnj'.1 hnj'.2
      k_with "m mul" =>
        first
          | refine mul_int ?_ (IntMulOk.of_right (intBits_le_64 (by omega) (by omega)))
          | refine mul_int ?_ (IntMulOk.of_left (intBits_le_64 (by omega) (by omega)))
      k_with "m imul" => refine imul_int ?_ (IntMulOk.of_right (intBits_le_64 (by omega) (by omega)))
      dsimp only
      k_steps
      rename_i F8 N8
      rw [mPr_turn, show (0 + (j : Int)).toNat = j from by omega, show (0 + (j : Int) + 1).toNat = j + 1 from by omega] at F8
      exact ⟨rfl, _, _, _, _, _, rfl, F8, N8, hII⟩
    · rintro I2 s₁ ⟨pl2, tp, tw, h6, tk6, rfl, F6, N6, hII⟩ h7 hx7
      have hm7 := N6 _ (.head _)
      have F7 : Fr g L' h7 (mPr l lt pl2 (some (.int (prodV ns (1 + (i : Int)) ns.length) tp)) (some (.int (wholeV ts (1 + (i : Int)) ns.length) tw)) (some (.int (1 + (i : Int)) tk3))) := ⟨F6.ns.extBut hx7 hm7.2.1.symm, fun b ob e => hx7 b ob (fun q => by rw [q, hm7.2.2] at e; cases e) (F6.keep b ob e), F6.above⟩
      have N7 : News g L' h7 [(I, itR (1 + ((i + 1 : Nat) : Int)) ((ns.length : Int) - ((i + 1 : Nat) : Int)))] := fun q hq => by
        cases List.mem_singleton.mp hq
        have := N6 _ (.tail _ (.head _))
        exact ⟨hx7 _ _ (Nat.ne_of_lt hII) this.1, this.2⟩
      rw [← heq i hilt] at F7
      clear F6 N6 F5 N5
      dsimp only
      k_steps
      all_goals first
        | exact ⟨rfl, _, _, _, _, _, _, rfl, F7, N7⟩
        | exact absurd rfl (by assumption)
  · rintro I s₁ ⟨pl, pr, wh, pt, h3, tk3, rfl, F3, N3⟩ h4 hx
    have hm := N3 _ (.head _)
    have F4 : Fr g L' h4 (mPr l lt pl pr wh pt) := ⟨F3.ns.extBut hx hm.2.1.symm, fun b ob e => hx b ob (fun q => by rw [q, hm.2.2] at e; cases e) (F3.keep b ob e), F3.above⟩
    have N4 : News g L' h4 [] := News.nil
    clear F N F3 N3
    dsimp only
    k_steps
    exact back_ (by k_asm) rfl
end Mine

-- part C9
namespace Mine
open PySem PySem.W PySem.Spec PySem.Calls PyProof.Rows

section
variable {prog : Program} {w : World} {A : Around} {E : Value → Shared → Prop} {s : Shared} {h₀ : Heap} {L : Addr} {m : Str → Option Value} {env : Env}

/-- the source of a comprehension over a range whose name is a cell, and what its turns do -/
noncomputable def CellSrc (prog : Program) (w : World) (A : Around) (h₀ : Heap) (L : Addr) (m : Str → Option Value) (env : Env) (elt : Expr) (x y : Str) (scope : Scope) (cl : List (Str × Addr)) (J : Nat → List Value → Prop) (news : List (Addr × Obj)) (a0 : Int) (n : Nat) (Q : Flow → Shared → Prop) (xv : Value) (s₁ : Shared) : Prop :=
  ∃ r b0 t u v, xv = .ref r ∧ IsRange s₁.heap r a0 b0 1 t u v ∧ Builtin.Range.small a0 b0 1 = true ∧ Builtin.Range.rangeSize a0 b0 1 = (n : Int) ∧ A.handled = none ∧ Fr h₀ L s₁.heap m ∧ News h₀ L s₁.heap news ∧ J 0 [] ∧ n ≤ sizeLine ∧
    (∀ i ys, i < n → J i ys → ∀ t I oI C oC cx ocx D h tk (E' : Value → Shared → Prop), ocx.data = .cell (some (.int (a0 + (i : Int)) t)) → Fr h₀ L h m → News h₀ L h ((I, oI) :: (C, oC) :: (cx, ocx) :: (D, LCg.lst ys) :: news) →
      (∀ q ∈ news, q.1 < I) → I < D → D < C → C < cx →
      wpAny (model prog w) A (eval elt (compEnvC scope ((x, cx) :: cl) C env)) (fun yv s' => ∃ h' tk', s' = { s₁ with heap := h', toks := tk' } ∧ Fr h₀ L h' m ∧ News h₀ L h' ((I, oI) :: (C, oC) :: (cx, ocx) :: (D, LCg.lst ys) :: news) ∧ J (i + 1) (ys ++ [yv])) E' { s₁ with heap := h, toks := tk }) ∧
    (∀ ys D h tk, J n ys → Fr h₀ L h (fun z => if z = y then some (.ref D) else m z) → News h₀ L h ((D, LCg.lst ys) :: news) → (∀ q ∈ news, q.1 < D) → Q .next { s₁ with heap := h, toks := tk })

theorem newEnv_one {scope : Scope} {cl : List (Str × Addr)} {x : Str} {Q : Env → Shared → Prop} (hcf : ∀ k, cellsFrom k scope.names cl = (x, k) :: cl) (hpc : ∀ h, pushCells h scope.names = h.push { cls := .type "cell", data := .cell none })
    (h : Q { scope := scope, locals := s.heap.objs.size, globals := env.globals, cells := (x, s.heap.objs.size + 1) :: cl, qual := env.qual, func := none, code := env.code, frame := env.frame, builtins := env.builtins }
      { s with heap := (s.heap.push { cls := .type "dict", data := .dict #[] }).push { cls := .type "cell", data := .cell none } }) :
    wpAny (model prog w) A (newFunctionEnv scope env.globals cl [] env.qual none .none (some env)) Q E s := by
  simp only [newFunctionEnv, Option.isSome_some, if_true]
  refine wpAny_bind (wpAny_alloc ?_)
  refine wpAny_bind (wpAny_layCells _ (fun name kind cells => by cases hkc : kind == NameKind.cell <;> simp [hkc]) _ _ _ _ ?_)
  rw [hcf, hpc]
  dsimp only
  rw [List.forIn_nil]
  rw [Heap.size_push]
  exact wpAny_bind (wpAny_pure (wpAny_pure h))

theorem comp_cell {elt iter : Expr} {x y : Str} {px py : Pos} {scope : Scope} {cl : List (Str × Addr)} {pos spos : Pos} {Q : Flow → Shared → Prop} (J : Nat → List Value → Prop) (news : List (Addr × Obj)) (a0 : Int) (n : Nat) (hLe : env.locals = L)
    (hsw : swapsWith (.ListComp elt [⟨.Name x px, iter, [], 0⟩] scope pos) (some (.Name y py)) spos.line env = pure true)
    (hclos : closureFor scope env = pure cl) (hkind : scope.kind = .function)
    (hnames : ∀ z ∈ scope.names, z.2 = .local → scope.names.lookup z.1 = some .local)
    (hcf : ∀ k, cellsFrom k scope.names cl = (x, k) :: cl) (hpc : ∀ h, pushCells h scope.names = h.push { cls := .type "cell", data := .cell none })
    (hxk : ∀ C c, (compEnvC scope ((x, c) :: cl) C env).kindOf x = some .cell)
    (hy : env.kindOf y = some .local) (hp : (env.scope.kind == .class || (env.scope.kind == .module && env.locals != env.globals)) = false)
    (h : wpAny (model prog w) A (eval iter env) (CellSrc prog w A h₀ L m env elt x y scope cl J news a0 n Q) (fun _ _ => False) s)
    (hs : ∀ x, foldedSetIterable iter env x = pure x := by intro _; rfl) :
    wpAny (model prog w) A (exec (.Assign [.Name y py] (.ListComp elt [⟨.Name x px, iter, [], 0⟩] scope pos) spos) env) Q (fun _ _ => False) s := by
  subst hLe
  rw [exec_Assign_Name_used _ _ _ _ hsw]
  refine wpAny_bind (wpAny_standAt (wpAny_bind ?_))
  show wpAny _ A (do let _ ← comprehension (.ListComp elt [⟨.Name x px, iter, [], 0⟩] scope pos) scope env _ (newList []) false (eval iter env) (some (assign (.Name y py) env))) _ _ s
  refine wpAny_bind (wpAny_mono (wpAny_comprehension_free (use := some (assign (.Name y py) env)) (Q := fun _ s' => Q .next s') rfl hs hclos hkind hnames
    (wpAny_mono h (fun xv s₁ h₁ => ?_) fun _ _ e => e)) (fun _ s' hq => wpAny_pure (wpAny_pure hq)) fun _ _ e => e)
  obtain ⟨r, b0, t, u, v, rfl, hr, hsm, hn, hh, F, N, hJ0, hsz, step, fin⟩ := h₁
  refine wpAny_pyIter_range hr hsm ?_
  rw [hn]
  refine wpAny_newObj_type ?_
  refine newEnv_one hcf hpc ?_
  dsimp only
  generalize hIe : s₁.heap.objs.size = I
  have hL : env.locals < I := hIe ▸ F.ns.lt
  have hnews : ∀ q ∈ news, q.1 < I := fun q hq => hIe ▸ Heap.lt_size (N q hq).1
  have habv : h₀.objs.size ≤ env.locals := F.above
  -- the four new objects
  have F1 := F.push ({ cls := .type "range_iterator", data := .fields #[rawInt a0, rawInt (n : Int), rawInt 1] } : Obj)
  have N1 := News.push F N ({ cls := .type "range_iterator", data := .fields #[rawInt a0, rawInt (n : Int), rawInt 1] } : Obj)
  have F2 := F1.push (LCg.lst [])
  have N2 := News.push F1 N1 (LCg.lst [])
  have F3 := F2.push ({ cls := .type "dict", data := .dict #[] } : Obj)
  have N3 := News.push F2 N2 ({ cls := .type "dict", data := .dict #[] } : Obj)
  have F4 := F3.push ({ cls := .type "cell", data := .cell none } : Obj)
  have N4 := News.push F3 N3 ({ cls := .type "cell", data := .cell none } : Obj)
  rw [Heap.size_push, Heap.size_push, Heap.size_push, hIe] at N4
  simp only [Heap.size_push, hIe]
  replace F4 : Fr h₀ env.locals ((((s₁.heap.push { cls := .type "range_iterator", data := .fields #[rawInt a0, rawInt (n : Int), rawInt 1] }).push { cls := .type "list", data := .seq #[] }).push { cls := .type "dict", data := .dict #[] }).push { cls := .type "cell", data := .cell none }) m := F4
  have N5 : News h₀ env.locals ((((s₁.heap.push { cls := .type "range_iterator", data := .fields #[rawInt a0, rawInt (n : Int), rawInt 1] }).push { cls := .type "list", data := .seq #[] }).push { cls := .type "dict", data := .dict #[] }).push { cls := .type "cell", data := .cell none })
      ((I, itR (a0 + ((0 : Nat) : Int)) ((n : Int) - ((0 : Nat) : Int))) :: (I + 1 + 1, { cls := .type "dict", data := .dict #[] }) :: (I + 1 + 1 + 1, { cls := .type "cell", data := .cell none }) :: (I + 1, LCg.lst []) :: news) := fun q hq => by
    refine N4 q ?_
    simp only [List.mem_cons] at hq ⊢
    rw [show itR (a0 + ((0 : Nat) : Int)) ((n : Int) - ((0 : Nat) : Int)) = ({ cls := .type "range_iterator", data := .fields #[rawInt a0, rawInt (n : Int), rawInt 1] } : Obj) from by unfold itR; rw [Int.natCast_zero, Int.add_zero, Int.sub_zero]] at hq
    rcases hq with h | h | h | h | h
    · exact .inr (.inr (.inr (.inl (hIe ▸ h))))
    · exact .inr (.inl h)
    · exact .inl h
    · exact .inr (.inr (.inl h))
    · exact .inr (.inr (.inr (.inr h)))
  clear F1 F2 F3 N1 N2 N3 N4
  generalize ((((s₁.heap.push { cls := .type "range_iterator", data := .fields #[rawInt a0, rawInt (n : Int), rawInt 1] }).push { cls := .type "list", data := .seq #[] }).push { cls := .type "dict", data := .dict #[] }).push { cls := .type "cell", data := .cell none }) = H4 at F4 N5
  have hd1 : h₀.get? (I + 1) = none := (N5 (I + 1, LCg.lst []) (by simp)).2.2
  have hd2 : h₀.get? (I + 1 + 1) = none := (N5 (I + 1 + 1, _) (.tail _ (.head _))).2.2
  have hd3 : h₀.get? (I + 1 + 1 + 1) = none := (N5 (I + 1 + 1 + 1, _) (.tail _ (.tail _ (.head _)))).2.2
  have hdI : h₀.get? I = none := (N5 (I, _) (.head _)).2.2
  have hLI : env.locals ≠ I := Nat.ne_of_lt hL
  have loop : codeAny (model prog w) A (.compLoop (.ListComp elt [⟨.Name x px, iter, [], 0⟩] scope pos) 0 (.ref I) (.ref (I + 1)) (compEnvC scope ((x, I + 1 + 1 + 1) :: cl) (I + 1 + 1) env))
      (compPost (model prog w) A (fun _ _ => False) (some (assign (.Name y py) env)) (fun _ s' => Q .next s') (.ref (I + 1)) (I + 1 + 1)) { s₁ with heap := H4 } := by
    refine codeAny_compLoop_list (fun k s' => ∃ (i : Nat) (ys : List Value) (oc : Obj) (v0 : Option Value) (h' : Heap) (tk : Nat), s' = { s₁ with heap := h', toks := tk } ∧ i ≤ n ∧ k = n - i ∧ ys.length = i ∧ Fr h₀ env.locals h' m ∧
        News h₀ env.locals h' ((I, itR (a0 + (i : Int)) ((n : Int) - (i : Int))) :: (I + 1 + 1, { cls := .type "dict", data := .dict #[] }) :: (I + 1 + 1 + 1, oc) :: (I + 1, LCg.lst ys) :: news) ∧ oc.data = .cell v0 ∧ J i ys) ?_ n
      ⟨0, [], _, none, H4, s₁.toks, rfl, Nat.zero_le _, rfl, rfl, F4, N5, rfl, hJ0⟩
    rintro k s' ⟨i, ys, oc, v0, h', tk, rfl, hi, rfl, hyl, F', N', hoc, hJ⟩
    have nI := N' (I, _) (.head _)
    have nC := N' (I + 1 + 1, _) (.tail _ (.head _))
    have nX := N' (I + 1 + 1 + 1, oc) (.tail _ (.tail _ (.head _)))
    have nD := N' (I + 1, LCg.lst ys) (.tail _ (.tail _ (.tail _ (.head _))))
    have nN : ∀ q ∈ news, h'.get? q.1 = some q.2 ∧ q.1 ≠ env.locals ∧ h₀.get? q.1 = none := fun q hq => N' q (.tail _ (.tail _ (.tail _ (.tail _ hq))))
    have lt1 : ∀ q ∈ news, q.1 ≠ I ∧ q.1 ≠ I + 1 ∧ q.1 ≠ I + 1 + 1 ∧ q.1 ≠ I + 1 + 1 + 1 := fun q hq => by
      have : @LT.lt Nat _ q.1 I := hnews q hq
      exact ⟨neN (by omega), neN (by omega), neN (by omega), neN (by omega)⟩
    rcases Nat.lt_or_ge i n with hlt | hge
    · refine wpAny_pyNext_range_item (s := { s₁ with heap := h', toks := tk }) nI.1 (by omega) fun h2 hit2 hsb2 => ?_
      have hit3 : h2.get? I = some (itR (a0 + ((i + 1 : Nat) : Int)) ((n : Int) - ((i + 1 : Nat) : Int))) := by
        have e1 : a0 + (i : Int) + 1 = a0 + ((i + 1 : Nat) : Int) := by omega
        have e2 : (n : Int) - (i : Int) - 1 = (n : Int) - ((i + 1 : Nat) : Int) := by omega
        rw [← e1, ← e2]; exact hit2
      have FF2 := F'.change hsb2 nI.2.1 nI.2.2
      refine wpAny_assign_Name (wpAny_storeName_cell (c := I + 1 + 1 + 1) hkind (hxk _ _) (by simp [compEnvC]) ⟨oc, (hsb2.2 _ (neN (by omega))).trans nX.1, hoc⟩ fun h3 hc3 hsb3 => ?_)
      obtain ⟨oc3, ho3, hd3'⟩ := hc3
      have FF3 := FF2.change hsb3 nX.2.1 nX.2.2
      have k23 : ∀ b o, b ≠ I → b ≠ I + 1 + 1 + 1 → h'.get? b = some o → h3.get? b = some o := fun b o h1 h2 e => (hsb3.2 b h2).trans ((hsb2.2 b h1).trans e)
      have NN3 : News h₀ env.locals h3 ((I, itR (a0 + ((i + 1 : Nat) : Int)) ((n : Int) - ((i + 1 : Nat) : Int))) :: (I + 1 + 1, { cls := .type "dict", data := .dict #[] }) :: (I + 1 + 1 + 1, oc3) :: (I + 1, LCg.lst ys) :: news) := fun q hq => by
        rcases List.mem_cons.mp hq with rfl | hq
        · exact ⟨(hsb3.2 _ (neN (by omega))).trans hit3, nI.2⟩
        rcases List.mem_cons.mp hq with rfl | hq
        · exact ⟨k23 _ _ (neN (by omega)) (neN (by omega)) nC.1, nC.2⟩
        rcases List.mem_cons.mp hq with rfl | hq
        · exact ⟨ho3, nX.2⟩
        rcases List.mem_cons.mp hq with rfl | hq
        · exact ⟨k23 _ _ (neN (by omega)) (neN (by omega)) nD.1, nD.2⟩
        · exact ⟨k23 _ _ (lt1 q hq).1 (lt1 q hq).2.2.2 (nN q hq).1, (nN q hq).2⟩
      refine wpAny_mono (step i ys hlt hJ _ I _ (I + 1 + 1) _ (I + 1 + 1 + 1) oc3 (I + 1) h3 _ _ hd3' FF3 NN3 hnews (Nat.lt_succ_self _) (Nat.lt_succ_self _) (Nat.lt_succ_self _)) (fun yv s4 h4 => ?_) fun _ _ e => e
      obtain ⟨h4, tk4, rfl, F4', N4', hJ4⟩ := h4
      have mI := N4' (I, _) (.head _)
      have mC := N4' (I + 1 + 1, _) (.tail _ (.head _))
      have mX := N4' (I + 1 + 1 + 1, oc3) (.tail _ (.tail _ (.head _)))
      have mD := N4' (I + 1, LCg.lst ys) (.tail _ (.tail _ (.tail _ (.head _))))
      have mN : ∀ q ∈ news, h4.get? q.1 = some q.2 ∧ q.1 ≠ env.locals ∧ h₀.get? q.1 = none := fun q hq => N4' q (.tail _ (.tail _ (.tail _ (.tail _ hq))))
      refine append_at (s := { s₁ with heap := h4, toks := tk4 }) (hsz := by show ys.toArray.size ≤ sizeLine; rw [List.size_toArray, hyl]; exact Nat.le_trans hi hsz) mD.1 fun h5 hs5 hD5 => ?_
      refine ⟨n - (i + 1), by omega, i + 1, ys ++ [yv], oc3, _, h5, tk4, rfl, hlt, rfl, by simp [hyl], F4'.change hs5 mD.2.1 mD.2.2, fun q hq => ?_, hd3', hJ4⟩
      rcases List.mem_cons.mp hq with rfl | hq
      · exact ⟨(hs5.2 _ (neN (by omega))).trans mI.1, mI.2⟩
      rcases List.mem_cons.mp hq with rfl | hq
      · exact ⟨(hs5.2 _ (neN (by omega))).trans mC.1, mC.2⟩
      rcases List.mem_cons.mp hq with rfl | hq
      · exact ⟨(hs5.2 _ (neN (by omega))).trans mX.1, mX.2⟩
      rcases List.mem_cons.mp hq with rfl | hq
      · exact ⟨hD5.trans (congrArg some (LCg.lst_snoc ys yv)), mD.2⟩
      · exact ⟨(hs5.2 _ (lt1 q hq).2.1).trans (mN q hq).1, (mN q hq).2⟩
    · obtain rfl : i = n := by omega
      refine wpAny_pyNext_range_end (s := { s₁ with heap := h', toks := tk }) hh nI.1 (by omega) fun h2 hx2 => ?_
      show wpAny _ A (assign (.Name y py) env (.ref (I + 1))) _ _ _
      have FF2 : Fr h₀ env.locals h2 m := ⟨F'.ns.extBut hx2 hLI, fun b ob e => hx2 b ob (fun q => by rw [q, hdI] at e; cases e) (F'.keep b ob e), F'.above⟩
      refine wpAny_assign_Name (wpAny_storeName_local hy FF2.ns (fun h3 hn3 hs3 => ?_) hp)
      have hCL : env.locals ≠ I + 1 + 1 := neN (by have : @LT.lt Nat _ env.locals I := hL; omega)
      have hDL : env.locals ≠ I + 1 := neN (by have : @LT.lt Nat _ env.locals I := hL; omega)
      have FF3 := FF2.set hn3 hs3
      refine ⟨fun _ => none, ⟨_, #[], 0, (hs3.2 _ hCL.symm).trans (hx2 _ _ (neN (by omega)) nC.1), rfl, (by intro e he; simp at he), fun _ => rfl⟩, fun h4 hs4 => ?_⟩
      refine fin ys (I + 1) h4 _ hJ (FF3.change hs4 hCL.symm hd2) (fun q hq => ?_) (fun q hq => Nat.lt_trans (hnews q hq) (Nat.lt_succ_self _))
      rcases List.mem_cons.mp hq with rfl | hq
      · exact ⟨(hs4.2 _ (neN (by omega))).trans ((hs3.2 _ hDL.symm).trans (hx2 _ _ (neN (by omega)) nD.1)), nD.2⟩
      · exact ⟨(hs4.2 _ (lt1 q hq).2.2.1).trans ((hs3.2 _ (nN q hq).2.1).trans (hx2 _ _ (lt1 q hq).1 (nN q hq).1)), (nN q hq).2⟩
  exact codeAny_compStart_list loop (wpAny_pyIter_rangeiter (s := { s₁ with heap := H4 }) (N5 _ (.head _)).1 loop)
end
end Mine

-- part C10
namespace Mine
open PySem PySem.W PySem.Spec PySem.Calls PyProof.Rows

section
variable {prog : Program} {w : World} {A : Around} {E : Value → Shared → Prop} {s : Shared} {h₀ : Heap} {L : Addr} {m : Str → Option Value} {env : Env} {news : List (Addr × Obj)}

/-- a comprehension with one test over a list -/
theorem lc_list {elt iter test : Expr} {x : Str} {px : Pos} {scope : Scope} {cl : List (Str × Addr)} {pos : Pos} {Q : Value → Shared → Prop} {l : Addr} {vs : List Value} (p : Value → Bool) (f : Value → Value → Prop) (hh : A.handled = none)
    (hclos : closureFor scope env = pure cl) (hcell : ∀ y ∈ scope.names, y.2 ≠ .cell) (hkind : scope.kind = .function)
    (hnames : ∀ y ∈ scope.names, y.2 = .local → scope.names.lookup y.1 = some .local) (hx : scope.names.lookup x = some .local)
    (F : Fr h₀ L s.heap m) (N : News h₀ L s.heap news) (hl : s.heap.IsList l vs.toArray) (hsz : vs.length ≤ sizeLine)
    (heval : ∀ Q' : Value → Shared → Prop, Q' (.ref l) s → wpAny (model prog w) A (eval iter env) Q' E s)
    (htest : ∀ C (i : Nat) v s₃ m₃ (E' : Value → Shared → Prop), vs[i]? = some v → s₃.heap.Ns C m₃ → m₃ x = some v → s.heap.StaysIn s₃.heap → wpAny (model prog w) A (isTrue test (compEnvC scope cl C env) (eval test (compEnvC scope cl C env))) (fun ok s₄ => ok = p v ∧ Keeps s₃ s₄) E' s₃)
    (helt : ∀ C (i : Nat) v s₃ m₃ (E' : Value → Shared → Prop), vs[i]? = some v → s₃.heap.Ns C m₃ → m₃ x = some v → s.heap.StaysIn s₃.heap → wpAny (model prog w) A (eval elt (compEnvC scope cl C env)) (fun y s₄ => f v y ∧ Keeps s₃ s₄) E' s₃)
    (k : ∀ D h' tk ys n, Fr h₀ L h' m → News h₀ L h' ((D, listOf ys n) :: news) → (∀ q ∈ news, q.1 ≠ D) → s.heap.StaysIn h' → Paired f (vs.filter p) ys.toList → Q (.ref D) { s with heap := h', toks := tk })
    (hs : ∀ x, foldedSetIterable iter env x = pure x := by intro _; rfl) :
    wpAny (model prog w) A (eval (.ListComp elt [⟨.Name x px, iter, [test], 0⟩] scope pos) env) Q E s := by
  have hlt : l < s.heap.objs.size := by obtain ⟨_, e, _⟩ := hl; exact Heap.lt_size e
  refine wpAny_ListComp_free p f hclos hcell hkind hnames hx (heval _ ?_) hs
  refine wpAny_pyIter_list hl ?_
  have up : ∀ b o, s.heap.get? b = some o → (s.heap.push { cls := .type "list_iterator", data := .fields #[.ref l, .int 0 0] }).get? b = some o := fun b o e => Heap.get?_push_of_some _ e
  have nI : ∀ b o, s.heap.get? b = some o → b ∉ [s.heap.objs.size] := fun b o e hm => Nat.lt_irrefl _ ((List.mem_singleton.mp hm) ▸ Heap.lt_size e)
  refine ⟨s.heap.objs.size, _, _, vs.toArray.size, _, _, rfl, Walks.list hh s.heap.objs.size l (Nat.ne_of_lt hlt) vs.toArray, by rw [List.size_toArray]; exact hsz, ⟨⟨_, Heap.get?_push_size _ rfl, rfl, rfl⟩, hl.push _⟩, fun b hb => ?_, ⟨?_, ?_⟩, ?_⟩
  · show b < (s.heap.push _).objs.size
    rw [Heap.size_push]
    rcases List.mem_cons.mp hb with rfl | hb
    · exact Nat.lt_succ_self _
    · rw [List.mem_singleton.mp hb]; exact Nat.lt_succ_of_lt hlt
  · intro C i v s₃ m₃ E' hC hP hns hm hk htk
    exact wpAny_tests_one (htest C i v s₃ m₃ E' (by simpa using hP) hns hm fun b o e => hk b o (nI b o e) (up b o e))
  · intro C i v s₃ m₃ E' hC hP hpv hns hm hk htk
    exact helt C i v s₃ m₃ E' (by simpa using hP) hns hm fun b o e => hk b o (nI b o e) (up b o e)
  · intro D h' tk ys vs' hD hlD hplD hlen hP hF hk
    obtain ⟨n, hpl⟩ := hplD
    have st : s.heap.StaysIn h' := fun b o e => hk b o (nI b o e) (up b o e)
    have hvs : vs' = vs := by
      apply List.ext_getElem?
      intro j
      rcases Nat.lt_or_ge j vs'.length with hj | hj
      · have := hP j vs'[j] (List.getElem?_eq_getElem hj)
        rw [List.getElem?_eq_getElem hj]
        simpa using this.symm
      · have hj' : vs.length ≤ j := by rw [hlen] at hj; simpa using hj
        rw [List.getElem?_eq_none hj, List.getElem?_eq_none hj']
    subst hvs
    have hDn : s.heap.get? D = none := by
      cases e : s.heap.get? D with
      | none => rfl
      | some o => have := up D o e; rw [hD] at this; cases this
    have hD0 : h₀.get? D = none := by
      cases e : h₀.get? D with
      | none => rfl
      | some o => have := F.keep D o e; rw [hDn] at this; cases this
    have hDL : D ≠ L := fun q => by
      obtain ⟨oL, _, _, hL, _⟩ := F.ns
      rw [q, hL] at hDn; cases hDn
    refine k D h' tk ys n (fr_stays F st) (fun q hq => ?_) (fun q hq e => ?_) st hF
    · rcases List.mem_cons.mp hq with rfl | hq
      · exact ⟨hpl, hDL, hD0⟩
      · exact ⟨st _ _ (N q hq).1, (N q hq).2⟩
    · have := (N q hq).1; rw [e, hDn] at this; cases this
end

/-- a def of the text whose parameters are captured, entered -/
theorem enterC {w : World} {p : Program} {loose : List Str} {mean : ExcName → Option Value} {mg mb : Str → Option Value} {D : Nat} {h : Heap} {Out : Heap → Heap → Value → Prop}
    {name qual : Str} {params : Arguments} {body : List Stmt} {scope : Scope} {dV kV doc pm cdv ct oc : Value} {an od : Option Addr} {osl : Array (Option Value)} {f : Addr} {vs : List Value} {binds : List (Str × Value)}
    (ho : (hd.heap_39 w.params).lookup f = some ⟨oc, od, .func (fnOf name qual params body scope dV kV doc pm an cdv ct), osl⟩) (hcd : codeIn (hd.heap_39 w.params) cdv qual = true)
    (hbind : ∀ s : Shared, (hd.heap_39 w.params).In s.heap → BindsTo s (fnOf name qual params body scope dV kV doc pm an cdv ct) ⟨vs, []⟩ binds)
    (hkind : (binds.all fun y => scope.names.lookup y.1 == some .local || scope.names.lookup y.1 == some .cell) = true)
    (hnd : ((cellsFrom 0 scope.names []).map (·.1)).Nodup)
    (hstep : ∀ (dp un : Nat) (gd : Option (List Code)) (env : Env) (outer : List Env) (A₀ : Around) (base g : Heap) (L' : Addr) (h₁ : Heap) (s : Shared) (tk : Nat) (cells : List (Addr × Obj)),
      h.StaysIn g → dp + D < recursionLimit → un + 8 * D < cLine → env.scope.kind = .function →
      Fr g L' h₁ (bindL (envOfC qual scope L' f cdv).kindOf binds fun _ => none) → News g L' h₁ cells → CellsAre (bindC (envOfC qual scope L' f cdv).kindOf binds fun _ => none) (cellsFrom (L' + 1) scope.names []) cells →
      Below { handled := none, depth := dp, frames := some (env :: outer), guards := gd, units := un } base (env :: outer) g → (hd.heap_39 w.params).In g → Top p loose mean mg mb g →
      wpAny (model Challenge.rw_mr0061_01.row.prog w) (({ handled := none, depth := dp, frames := some (env :: outer), guards := gd, units := un } : Around).deeper (envOfC qual scope L' f cdv)) (execs body (envOfC qual scope L' f cdv))
        (fun fl s' => Back g L' s (Out g) (match fl with | .ret v => v | _ => .none) s') (fun _ _ => False) { s with heap := h₁, toks := tk })
    (hco : scope.isCoroutine = false) (hgen : scope.isGenerator = false) (hk : scope.kind = .function) (hD : 0 < D) :
    Tr w p loose mean mg mb D (call (.ref f) vs) h Out := by
  intro dp un gd cn cs a ccd cl outer A₀ base h₀ L m s Q E B F X T hke hs hdp hun ret
  refine wpAny_call ?_
  obtain ⟨FG, BG, st, lv⟩ := groundX (R := fun _ _ => True) (A := ktrTop dp un gd cn cs L a ccd cl outer) (env := envX cn cs L a ccd cl) B F (News.nil) rfl rfl hke
  refine codeAny_call_function (by show dp < recursionLimit; omega) ((X.keeps F.keep) _ _ ho) rfl hco hgen rfl (codeRec_of (X.keeps F.keep) hcd) (hbind s (X.keeps F.keep) _ _ _ _ ?_)
  refine wpAny_newFunctionEnv_cells hk (kindsX hkind _) fun env' he s' x => ?_
  subst he
  refine ⟨((T.nolimit).keeps F.keep).keeps x.toInCall.keep, codeAny_func ?_⟩
  obtain ⟨h₁, tk, rfl, _⟩ := x.done
  have hk₁ := x.toInCall.keep
  obtain ⟨cells, NC, Y⟩ := Cl.news (h₀ := s.heap) (Nat.le_refl _) fun n c hm => ⟨x.cell n c (lookup_of_mem_nodup (cellsFrom_names scope.names 0 (s.heap.objs.size + 1) [] [] rfl ▸ hnd) hm), x.above n c hm⟩
  refine wpAny_mono (hstep dp un gd (envX cn cs L a ccd cl) outer A₀ base s.heap s.heap.objs.size h₁ s tk cells hs hdp hun hke
    ⟨x.toInCall.ns, hk₁, Nat.le_refl _⟩ NC Y BG (X.keeps F.keep) (T.keeps F.keep)) (fun fl s' hb => ?_) (fun _ _ x => x.elim)
  obtain ⟨m', h', tk', rfl, F', o⟩ := hb
  exact ret _ h' tk' (fr_stays F F'.keep) F'.keep o
end Mine

-- part C11
namespace Mine
open PySem PySem.W PySem.Spec PySem.Calls PyProof.Rows
local macro_rules | `(tactic| walk_at "exec Assign cons ListComp") => `(tactic| k_extra "m asg")
local macro_rules | `(tactic| walk_at "eval ListComp") => `(tactic| k_extra "m lc")
local macro_rules | `(tactic| walk_at "eval Name") => `(tactic| k_extra "m nm")
local macro_rules | `(tactic| walk_at "exec For Name Call cons nil") => `(tactic| k_extra "m stop")
variable {w : World} {p : Program} {loose : List Str} {mean : ExcName → Option Value} {mg mb : Str → Option Value} {h : Heap} {D : Nat} {l f : Addr} {vs : List Value} {ns : List Int} {S : Int → Int → Bool}
/-- how many of the numbers have a one at a place -/
noncomputable def bitB (pl : Nat) (n : Int) : Bool := Builtin.bitAnd (n.fdiv (2 ^ (0 + (pl : Int)).toNat)) 1 != 0
noncomputable def onesV (ns : List Int) (pl : Nat) : Int := ((ns.filter (bitB pl)).length : Int)
noncomputable abbrev mBt (f On Du : Addr) (pl va sz : Option Value) : Str → Option Value := fun y => if y = Str.ofString "place" then pl else if y = Str.ofString "value" then va else if y = Str.ofString "size" then sz else if y = Str.ofString "due" then some (.ref Du) else if y = Str.ofString "ones" then some (.ref On) else if y = Str.ofString "sure" then some (.ref f) else none
theorem mBt_start (f On Du : Addr) : (fun y => if y = Str.ofString "due" then some (Value.ref Du) else if y = Str.ofString "ones" then some (Value.ref On) else if y = Str.ofString "sure" then some (Value.ref f) else none) = mBt f On Du none none none := by
  funext y
  by_cases h0 : y = Str.ofString "place"
  · subst h0; rfl
  by_cases h1 : y = Str.ofString "value"
  · subst h1; rfl
  by_cases h2 : y = Str.ofString "size"
  · subst h2; rfl
  by_cases h3 : y = Str.ofString "due"
  · subst h3; rfl
  by_cases h4 : y = Str.ofString "ones"
  · subst h4; rfl
  by_cases h5 : y = Str.ofString "sure"
  · subst h5; rfl
  simp only [mBt, h0, h1, h2, h3, h4, h5, if_false]
theorem mBt_inner (f On Du : Addr) (pl va sz : Option Value) (v w : Value) : (fun y => if y = Str.ofString "value" then some w else if y = Str.ofString "size" then some v else mBt f On Du pl va sz y) = mBt f On Du pl (some w) (some v) := by
  funext y
  by_cases h0 : y = Str.ofString "place"
  · subst h0; rfl
  by_cases h1 : y = Str.ofString "value"
  · subst h1; rfl
  by_cases h2 : y = Str.ofString "size"
  · subst h2; rfl
  by_cases h3 : y = Str.ofString "due"
  · subst h3; rfl
  by_cases h4 : y = Str.ofString "ones"
  · subst h4; rfl
  by_cases h5 : y = Str.ofString "sure"
  · subst h5; rfl
  simp only [mBt, h0, h1, h2, h3, h4, h5, if_false]
theorem mBt_turn (f On Du : Addr) (pl va sz : Option Value) (v w : Value) : (fun y => if y = Str.ofString "value" then some w else if y = Str.ofString "place" then some v else mBt f On Du pl va sz y) = mBt f On Du (some v) (some w) sz := by
  funext y
  by_cases h0 : y = Str.ofString "place"
  · subst h0; rfl
  by_cases h1 : y = Str.ofString "value"
  · subst h1; rfl
  by_cases h2 : y = Str.ofString "size"
  · subst h2; rfl
  by_cases h3 : y = Str.ofString "due"
  · subst h3; rfl
  by_cases h4 : y = Str.ofString "ones"
  · subst h4; rfl
  by_cases h5 : y = Str.ofString "sure"
  · subst h5; rfl
  simp only [mBt, h0, h1, h2, h3, h4, h5, if_false]
theorem mBt_turn0 (f On Du : Addr) (pl va sz : Option Value) (v : Value) : (fun y => if y = Str.ofString "place" then some v else mBt f On Du pl va sz y) = mBt f On Du (some v) va sz := by
  funext y
  by_cases h0 : y = Str.ofString "place"
  · subst h0; rfl
  by_cases h1 : y = Str.ofString "value"
  · subst h1; rfl
  by_cases h2 : y = Str.ofString "size"
  · subst h2; rfl
  by_cases h3 : y = Str.ofString "due"
  · subst h3; rfl
  by_cases h4 : y = Str.ofString "ones"
  · subst h4; rfl
  by_cases h5 : y = Str.ofString "sure"
  · subst h5; rfl
  simp only [mBt, h0, h1, h2, h3, h4, h5, if_false]
noncomputable def bitsV (S : Int → Int → Bool) (ns : List Int) (sz : Int) : Nat → Int
  | 0 => 0
  | j + 1 => if S (onesV ns j) sz then bitsV S ns sz j + 2 ^ j else bitsV S ns sz j
noncomputable def wrapV (v : Int) : Int := if v < 128 then v else v - 256
noncomputable def dueV (S : Int → Int → Bool) (ns : List Int) (i : Nat) : Int := wrapV (bitsV S ns (1 + (i : Int)) 8)
set_option maxHeartbeats 8000000 in
theorem bits_spec (hfn : FnAt f h) (hf : FunB w p loose mean mg mb D h (.ref f) S) (hl : h.IsList l vs.toArray) (hi : IntsAre vs ns) (hlen : ns.length ≤ 4) (hsm : ∀ x ∈ ns, -128 ≤ x ∧ x ≤ 127) :
    Tr w p loose mean mg mb (D + 1) (call (.ref 115) [.ref l, .ref f]) h (fun h0 h'' r => ∃ own, NewOwn h0 h'' own ∧ ∀ hb, RL hb own r ((List.range ns.length).map (dueV S ns))) := by
  refine' enterC (binds := [(Str.ofString "numbers", .ref l), (Str.ofString "sure", .ref f)]) ?k6 ?k7 ?k9 ?kB ?kD ?kS ?c2 ?c3 ?c4 ?cD
  case k6 => k_is
  case k7 => k_is
  case k9 => exact fun s _ => BindsTo.of_eq rfl
  case kB => exact rfl
  case kD => decide +kernel
  case c2 => exact rfl
  case c3 => exact rfl
  case c4 => exact rfl
  case cD => exact Nat.succ_pos _
  intro dp un gd env outer A₀ base g L' h₁ s tk cells hs hdp hun hke F N Y Bl X T
  k_fold
  k_cells Y
  rename_i o1 d1
  replace d1 : o1.data = .cell (some (.ref l)) := d1
  replace F : Fr g L' h₁ (fun y => if y = Str.ofString "sure" then some (.ref f) else none) := F
  have hlg : g.IsList l vs.toArray := stays_list hs hl
  have hfg : FnAt f g := fnat_keep hfn hs
  have hvl : vs.length = ns.length := hi.length
  k_with_none
  k_with "m stop" => refine stop_here ?_
  k_steps
  refine comp_cell (h₀ := g) (L := L') (m := fun y => if y = Str.ofString "sure" then some (.ref f) else none) (fun i ys => IntsAre ys ((List.range i).map (onesV ns))) [(L' + 1, o1)] 0 8 (by rfl) (by with_unfolding_all rfl) (by with_unfolding_all rfl) (by rfl) (by decide) (by intro k; rfl) (by intro h; rfl) (by intro C c; rfl) (by rfl) (by rfl) ?_
  k_steps
  refine ⟨_, _, _, _, _, rfl, by assumption, small_one (by decide) (by decide) (by decide) (by decide), by decide, rfl, by assumption, by assumption, .nil, by rw [sizeLine_eq]; omega, ?_, ?_⟩
  · intro i ys hilt hys t I oI C oC cx ocx Da h2 tk2 E' hcx F2 N2 hnI hID hDC hCx
    k_steps
    rename_i Dl yl h3 tk3 F3 N3 hD3 hl3 hp3 hc3
    have hi3 := IntsAre.ofCarried hc3
    have hfl : (ns.filter (bitB i)).length ≤ ns.length := List.length_filter_le _ _
    have hyl3 : yl.toArray.size = (ns.filter (bitB i)).length := by rw [List.size_toArray]; exact hi3.length
    refine call_len_list hl3 (by rw [hyl3]; omega) ?_
    refine ⟨_, _, rfl, F3, N3, ?_⟩
    rw [hyl3, List.range_succ, List.map_append]
    exact hys.append (.cons _ _ .nil)
  · intro ys Da h2 tk2 hys F2 N2 hn2
    dsimp only
    k_steps
    unfold Stop
    rename_i Du hz1 l1 h4 F4 N4
    rw [mBt_start] at F4
    have hDu : @LT.lt Nat _ Da Du ∧ @LT.lt Nat _ (L' + 1) Du := l1
    have hdl : Da ≠ L' + 1 := (Nat.ne_of_lt (hn2 (L' + 1, o1) (.head _))).symm
    refine for_rg (a0 := 1) (n := ns.length) rfl
      (fun I i s₁ => ∃ (dv : List Value) (c : Nat) (sz va pl : Option Value) (h : Heap) (tk : Nat), s₁ = { s with heap := h, toks := tk } ∧ Fr g L' h (mBt f Da Du pl va sz) ∧
        News g L' h [(I, itR (1 + (i : Int)) ((ns.length : Int) - (i : Int))), (Du, listOf dv.toArray c), (Da, LCg.lst ys), (L' + 1, o1)] ∧ Du < I ∧ IntsAre dv ((List.range i).map (dueV S ns)) ∧ i ≤ ns.length) ?_ ?_ ?_ ?_
    · k_steps
      refine rg_at (by assumption) (small_one (by omega) (by omega) (by omega) (by omega)) (by rw [rangeSize_nat]; omega) (by assumption) (by assumption) ?_
      intro I h5 F5 N5 l5
      refine ⟨[], 0, none, none, none, h5, _, rfl, F5, ?_, l5 _ (.head _), .nil, Nat.zero_le _⟩
      simpa using N5
    · rintro I i s₁ ⟨dv, c, sz, va, pl, h5, tk5, rfl, F5, N5, hDI, hdv, hile⟩
      exact (N5 _ (.head _)).1
    · rintro I i s₁ hilt ⟨dv, c, sz, va, pl, h5, tk5, rfl, F5, N5, hDI, hdv, hile⟩ h6 hit6 hsb
      have hDI' : @LT.lt Nat _ Du I := hDI
      have hm := N5 _ (.head _)
      have F6 := F5.change hsb hm.2.1 hm.2.2
      have N6 : News g L' h6 [(I, itR (1 + ((i + 1 : Nat) : Int)) ((ns.length : Int) - ((i + 1 : Nat) : Int))), (Du, listOf dv.toArray c), (Da, LCg.lst ys), (L' + 1, o1)] := fun q hq => by
        rcases List.mem_cons.mp hq with rfl | hq
        · exact ⟨hit6, hm.2⟩
        · have := N5 q (.tail _ hq)
          refine ⟨(hsb.2 _ (neN ?_)).trans this.1, this.2⟩
          simp only [List.mem_cons, List.not_mem_nil, or_false] at hq
          rcases hq with rfl | rfl | rfl <;> dsimp only <;> omega
      clear F5 N5 F4 N4 hsb
      dsimp only
      k_steps
      unfold Stop
      rename_i hz2 h7 F7 N7
      rw [mBt_inner] at F7
      refine for_rg (a0 := 0) (n := 8) rfl
        (fun I2 j s₁ => ∃ (tv : Tok) (pl : Option Value) (h : Heap) (tk : Nat), s₁ = { s with heap := h, toks := tk } ∧ Fr g L' h (mBt f Da Du pl (some (.int (bitsV S ns (1 + (i : Int)) j) tv)) (some (.int (1 + (i : Int)) tk5))) ∧
          News g L' h [(I2, itR (0 + (j : Int)) (((8 : Nat) : Int) - (j : Int))), (I, itR (1 + ((i + 1 : Nat) : Int)) ((ns.length : Int) - ((i + 1 : Nat) : Int))), (Du, listOf dv.toArray c), (Da, LCg.lst ys), (L' + 1, o1)] ∧ I < I2) ?_ ?_ ?_ ?_
      · k_steps
        refine rg_at (by assumption) (small_one (by decide) (by decide) (by decide) (by decide)) (by decide) (by assumption) (by assumption) ?_
        intro I2 h8 F8 N8 l8
        refine ⟨_, pl, h8, _, rfl, F8, ?_, l8 _ (.head _)⟩
        simpa using N8
      · rintro I2 j s₁ ⟨tv, pl2, h8, tk8, rfl, F8, N8, hII⟩
        exact (N8 _ (.head _)).1
      · rintro I2 j s₁ hjlt ⟨tv, pl2, h8, tk8, rfl, F8, N8, hII⟩ h9 hit9 hsb9
        have hII' : @LT.lt Nat _ I I2 := hII
        have hm9 := N8 _ (.head _)
        have F9 := F8.change hsb9 hm9.2.1 hm9.2.2
        have N9 : News g L' h9 [(I2, itR (0 + ((j + 1 : Nat) : Int)) (((8 : Nat) : Int) - ((j + 1 : Nat) : Int))), (I, itR (1 + ((i + 1 : Nat) : Int)) ((ns.length : Int) - ((i + 1 : Nat) : Int))), (Du, listOf dv.toArray c), (Da, LCg.lst ys), (L' + 1, o1)] := fun q hq => by
          rcases List.mem_cons.mp hq with rfl | hq
          · exact ⟨hit9, hm9.2⟩
          · have := N8 q (.tail _ hq)
            refine ⟨(hsb9.2 _ (neN ?_)).trans this.1, this.2⟩
            simp only [List.mem_cons, List.not_mem_nil, or_false] at hq
            rcases hq with rfl | rfl | rfl | rfl <;> dsimp only <;> omega
        have hol : ((List.range 8).map (onesV ns)).length = 8 := by simp
        have hyl8 : ys.length = 8 := by rw [hys.length]; exact hol
        clear F8 N8 F7 N7 hsb9
        k_with_none
        k_with "m call" =>
          k_dflt (refine tr_use (hf _ _ _ _) (by k_asm) (by k_asm) (by k_asm) (by k_asm) (by k_asm) (by first | exact rfl | assumption) (by exact stays_trans hs (Fr.keep (by k_asm))) (by ktr_room) (by ktr_units) ?_)
          intro r9 h9 tk9 F9 N9 k9 o9
          subst o9
          (try dsimp only)
        have hon : ((List.range 8).map (onesV ns)).getD (0 + (j : Int)).toNat 0 = onesV ns j := by
          rw [show (0 + (j : Int)).toNat = j from by omega]
          simp [List.getD, hjlt]
        dsimp only
        k_steps
        · rename_i hS h10 F10 N10
          rw [hon] at hS
          rw [mBt_turn, show (0 + (j : Int)).toNat = j from by omega] at F10
          have hbv : bitsV S ns (1 + (i : Int)) j + 2 ^ j = bitsV S ns (1 + (i : Int)) (j + 1) := by
            show _ = (if S (onesV ns j) (1 + (i : Int)) then bitsV S ns (1 + (i : Int)) j + 2 ^ j else bitsV S ns (1 + (i : Int)) j)
            rw [if_pos hS]
          rw [hbv] at F10
          exact ⟨rfl, _, _, _, _, rfl, F10, N10, hII⟩
        · rename_i hS
          rw [hon] at hS
          rw [mBt_turn0] at F9
          have hbv : bitsV S ns (1 + (i : Int)) j = bitsV S ns (1 + (i : Int)) (j + 1) := by
            show _ = (if S (onesV ns j) (1 + (i : Int)) then bitsV S ns (1 + (i : Int)) j + 2 ^ j else bitsV S ns (1 + (i : Int)) j)
            rw [hS]; rfl
          rw [hbv] at F9
          exact ⟨rfl, _, _, _, _, rfl, F9, N9, hII⟩
      · rintro I2 s₁ ⟨tv, pl2, h8, tk8, rfl, F8, N8, hII⟩ h9 hx9
        have hII' : @LT.lt Nat _ I I2 := hII
        have hm9 := N8 _ (.head _)
        have F9 : Fr g L' h9 (mBt f Da Du pl2 (some (.int (bitsV S ns (1 + (i : Int)) 8) tv)) (some (.int (1 + (i : Int)) tk5))) := ⟨F8.ns.extBut hx9 hm9.2.1.symm, fun b ob e => hx9 b ob (fun q => by rw [q, hm9.2.2] at e; cases e) (F8.keep b ob e), F8.above⟩
        have N9 : News g L' h9 [(I, itR (1 + ((i + 1 : Nat) : Int)) ((ns.length : Int) - ((i + 1 : Nat) : Int))), (Du, listOf dv.toArray c), (Da, LCg.lst ys), (L' + 1, o1)] := fun q hq => by
          have := N8 q (.tail _ hq)
          refine ⟨hx9 _ _ (neN ?_) this.1, this.2⟩
          simp only [List.mem_cons, List.not_mem_nil, or_false] at hq
          rcases hq with rfl | rfl | rfl | rfl <;> dsimp only <;> omega
        have hdl2 : dv.length ≤ ns.length := by rw [hdv.length]; simp; omega
        clear F8 N8 F7 N7
        k_with_none
        dsimp only
        k_steps
        all_goals (
          rename_i hS h10 F10 N10
          rw [List.push_toArray] at N10
          refine ⟨rfl, _, _, _, _, _, _, _, rfl, F10, N10, hDI, ?_, hilt⟩
          rw [List.range_succ, List.map_append]
          refine hdv.append ?_
          rw [List.map_singleton, dueV, wrapV]
          first
            | rw [if_pos (by simpa using hS)]; exact .cons _ _ .nil
            | rw [if_neg (by simpa using hS)]; exact .cons _ _ .nil)
    · rintro I s₁ ⟨dv, c, sz, va, pl, h5, tk5, rfl, F5, N5, hDI, hdv, hile⟩ h6 hx6
      have hDI' : @LT.lt Nat _ Du I := hDI
      have hm := N5 _ (.head _)
      have F6 : Fr g L' h6 (mBt f Da Du pl va sz) := ⟨F5.ns.extBut hx6 hm.2.1.symm, fun b ob e => hx6 b ob (fun q => by rw [q, hm.2.2] at e; cases e) (F5.keep b ob e), F5.above⟩
      have nD := N5 (Du, listOf dv.toArray c) (.tail _ (.head _))
      have N6 : News g L' h6 [(Du, listOf dv.toArray c)] := fun q hq => by
        cases List.mem_singleton.mp hq
        exact ⟨hx6 _ _ (neN (by omega)) nD.1, nD.2⟩
      clear F5 N5 F4 N4
      k_with_none
      dsimp only
      k_steps
      have hgL := F6.above
      refine back_ F6 ⟨[(Du, listOf dv.toArray c)], fun q hq => ?_, fun hb => ⟨Du, dv, c, rfl, hdv, .inr (.head _)⟩⟩
      cases List.mem_singleton.mp hq
      exact ⟨(N6 _ (.head _)).1, Nat.le_trans hgL (Nat.le_of_lt (Nat.lt_of_succ_lt hDu.2))⟩
end Mine

-- part C12
namespace Mine
open PySem PySem.W PySem.Spec PySem.Calls PyProof.Rows
theorem newList_L {M : Model} {A : Around} {E : Value → Shared → Prop} {s : Shared} {h₀ : Heap} {L : Addr} {m : Str → Option Value} {news : List (Addr × Obj)} {vs : List Value} {Q : Value → Shared → Prop} (F : Fr h₀ L s.heap m) (N : News h₀ L s.heap news)
    (h : ∀ l' h', Fr h₀ L h' m → News h₀ L h' ((l', listOf vs.toArray 0) :: news) → (∀ q ∈ news, q.1 < l') → L < l' → Q (.ref l') { s with heap := h' }) (hsz : vs.length ≤ sizeLine) :
    wpAny M A (newList vs) Q E s := newList_N F N (fun h' F' N' => h _ h' F' N' (fun q hq => Heap.lt_size (N q hq).1) F.ns.lt) hsz
local macro_rules | `(tactic| walk_at "newList") => `(tactic| k_extra "m nl")
local macro_rules | `(tactic| walk_at "exec For Name Call cons nil") => `(tactic| k_extra "m stop")
noncomputable abbrev mSp (l Sp : Addr) (be pl wo sz : Option Value) : Str → Option Value := fun y => if y = Str.ofString "behind" then be else if y = Str.ofString "place" then pl else if y = Str.ofString "worths" then wo else if y = Str.ofString "size" then sz else if y = Str.ofString "spans" then some (.ref Sp) else List.lookup y [(Str.ofString "numbers", Value.ref l)].reverse
theorem mSp_start (l Sp : Addr) : (fun y => if y = Str.ofString "spans" then some (Value.ref Sp) else List.lookup y [(Str.ofString "numbers", Value.ref l)].reverse) = mSp l Sp none none none none := by
  funext y
  by_cases h0 : y = Str.ofString "behind"
  · subst h0; rfl
  by_cases h1 : y = Str.ofString "place"
  · subst h1; rfl
  by_cases h2 : y = Str.ofString "worths"
  · subst h2; rfl
  by_cases h3 : y = Str.ofString "size"
  · subst h3; rfl
  by_cases h4 : y = Str.ofString "spans"
  · subst h4; rfl
  simp only [mSp, h0, h1, h2, h3, h4, if_false]
theorem mSp_inner (l Sp : Addr) (be pl wo sz : Option Value) (v w : Value) : (fun y => if y = Str.ofString "worths" then some w else if y = Str.ofString "size" then some v else mSp l Sp be pl wo sz y) = mSp l Sp be pl (some w) (some v) := by
  funext y
  by_cases h0 : y = Str.ofString "behind"
  · subst h0; rfl
  by_cases h1 : y = Str.ofString "place"
  · subst h1; rfl
  by_cases h2 : y = Str.ofString "worths"
  · subst h2; rfl
  by_cases h3 : y = Str.ofString "size"
  · subst h3; rfl
  by_cases h4 : y = Str.ofString "spans"
  · subst h4; rfl
  simp only [mSp, h0, h1, h2, h3, h4, if_false]
theorem mSp_turn (l Sp : Addr) (be pl wo sz : Option Value) (v w : Value) : (fun y => if y = Str.ofString "behind" then some w else if y = Str.ofString "place" then some v else mSp l Sp be pl wo sz y) = mSp l Sp (some w) (some v) wo sz := by
  funext y
  by_cases h0 : y = Str.ofString "behind"
  · subst h0; rfl
  by_cases h1 : y = Str.ofString "place"
  · subst h1; rfl
  by_cases h2 : y = Str.ofString "worths"
  · subst h2; rfl
  by_cases h3 : y = Str.ofString "size"
  · subst h3; rfl
  by_cases h4 : y = Str.ofString "spans"
  · subst h4; rfl
  simp only [mSp, h0, h1, h2, h3, h4, if_false]
/-- rising order by insertion -/
noncomputable def insV (x : Int) : List Int → List Int
  | [] => [x]
  | y :: r => if x ≤ y then x :: y :: r else y :: insV x r
noncomputable def sortV : List Int → List Int
  | [] => []
  | x :: r => insV x (sortV r)
theorem insV_perm (x : Int) : ∀ l, (insV x l).Perm (x :: l)
  | [] => .refl _
  | y :: r => by
    unfold insV
    split
    · exact .refl _
    · exact ((insV_perm x r).cons y).trans (.swap x y r)
theorem sortV_perm : ∀ l, (sortV l).Perm l
  | [] => .refl _
  | x :: r => (insV_perm x (sortV r)).trans ((sortV_perm r).cons x)
theorem insV_sorted (x : Int) : ∀ l, l.Pairwise (· ≤ ·) → (insV x l).Pairwise (· ≤ ·)
  | [], _ => by simp [insV]
  | y :: r, h => by
    unfold insV
    obtain ⟨h1, h2⟩ := List.pairwise_cons.mp h
    split
    · rename_i hxy
      refine List.pairwise_cons.mpr ⟨fun a ha => ?_, h⟩
      rcases List.mem_cons.mp ha with rfl | ha
      · exact hxy
      · exact Int.le_trans hxy (h1 a ha)
    · rename_i hxy
      refine List.pairwise_cons.mpr ⟨fun a ha => ?_, insV_sorted x r h2⟩
      rcases List.mem_cons.mp ((insV_perm x r).mem_iff.mp ha) with rfl | ha
      · omega
      · exact h1 a ha
theorem sortV_sorted : ∀ l, (sortV l).Pairwise (· ≤ ·)
  | [] => .nil
  | x :: r => insV_sorted x _ (sortV_sorted r)
theorem sorted_eq : ∀ {a b : List Int}, a.Perm b → a.Pairwise (· ≤ ·) → b.Pairwise (· ≤ ·) → a = b
  | [], b, p, _, _ => (List.Perm.nil_eq p)
  | x :: r, [], p, _, _ => by have := p.length_eq; simp at this
  | x :: r, y :: t, p, ha, hb => by
    obtain ⟨a1, a2⟩ := List.pairwise_cons.mp ha
    obtain ⟨b1, b2⟩ := List.pairwise_cons.mp hb
    have hxy : x = y := by
      have h1 : x ∈ y :: t := p.mem_iff.mp (.head _)
      have h2 : y ∈ x :: r := p.mem_iff.mpr (.head _)
      rcases List.mem_cons.mp h1 with h | h
      · exact h
      · rcases List.mem_cons.mp h2 with h' | h'
        · exact h'.symm
        · have := b1 x h; have := a1 y h'; omega
    subst hxy
    rw [sorted_eq (List.Perm.cons_inv p) a2 b2]
noncomputable def minV : List Int → Int
  | [] => 0
  | x :: r => r.foldl (fun a b => if a ≤ b then a else b) x
theorem foldl_min (r : List Int) : ∀ x, (r.foldl (fun a b => if a ≤ b then a else b) x ∈ x :: r) ∧ ∀ a ∈ x :: r, r.foldl (fun a b => if a ≤ b then a else b) x ≤ a := by
  induction r with
  | nil => intro x; simp
  | cons y t ih =>
    intro x
    rw [List.foldl_cons]
    by_cases h : x ≤ y
    · rw [if_pos h]
      obtain ⟨h1, h2⟩ := ih x
      refine ⟨?_, fun a ha => ?_⟩
      · rcases List.mem_cons.mp h1 with h1 | h1
        · rw [h1]; exact .head _
        · exact .tail _ (.tail _ h1)
      · rcases List.mem_cons.mp ha with rfl | ha
        · exact h2 _ (.head _)
        rcases List.mem_cons.mp ha with rfl | ha
        · exact Int.le_trans (h2 x (.head _)) h
        · exact h2 a (.tail _ ha)
    · rw [if_neg h]
      obtain ⟨h1, h2⟩ := ih y
      refine ⟨?_, fun a ha => ?_⟩
      · exact .tail _ h1
      · rcases List.mem_cons.mp ha with rfl | ha
        · exact Int.le_trans (h2 y (.head _)) (by omega)
        · exact h2 a ha
theorem min_eq {l : List Int} {m : Int} (h1 : m ∈ l) (h2 : ∀ a ∈ l, m ≤ a) : m = minV l := by
  cases l with
  | nil => cases h1
  | cons x r =>
    obtain ⟨g1, g2⟩ := foldl_min r x
    have a1 := h2 _ g1
    have a2 := g2 _ h1
    show m = r.foldl (fun a b => if a ≤ b then a else b) x
    omega
noncomputable def worthV (ns : List Int) (i j : Nat) : Int := ns.getD j 0 - ((sortV (ns.drop (j + 1))).reverse.take i).sum
noncomputable def spanV (ns : List Int) (i : Nat) : Int := minV ((List.range (ns.length - i)).map (worthV ns i))
variable {w : World} {p : Program} {loose : List Str} {mean : ExcName → Option Value} {mg mb : Str → Option Value} {h : Heap} {D : Nat} {l : Addr} {vs : List Value} {ns : List Int}
set_option maxHeartbeats 8000000 in
theorem spans_spec (hl : h.IsList l vs.toArray) (hi : IntsAre vs ns) (hlen : ns.length ≤ 4) :
    Tr w p loose mean mg mb 1 (call (.ref 129) [.ref l]) h (fun h0 h'' r => ∃ own, NewOwn h0 h'' own ∧ ∀ hb, RL hb own r ((List.range ns.length).map (spanV ns))) := by
  refine' enter0 (binds := [(Str.ofString "numbers", .ref l)]) ?k6 ?k7 ?k9 ?kB ?kS ?c2 ?c3 ?c4 ?c5 ?cD
  case k6 => k_is
  case k7 => k_is
  case k9 => exact fun s _ => BindsTo.of_eq rfl
  case kB => exact locs rfl
  case c2 => exact rfl
  case c3 => exact rfl
  case c4 => exact rfl
  case c5 => decide
  case cD => exact Nat.succ_pos _
  intro dp un gd env outer A₀ base g L' h₁ s hs hdp hun hke F N Bl X T
  k_fold
  have hlg : g.IsList l vs.toArray := stays_list hs hl
  have hvl : vs.length = ns.length := hi.length
  k_with_none
  k_with "m stop" => refine stop_here ?_
  k_with "m nl" =>
    k_dflt (refine newList_L (by k_asm) (by k_asm) ?_ (by rw [sizeLine_eq]; exact Nat.zero_le _))
    intro Sp hz1 F' N' l1 hLSp
  k_steps
  unfold Stop
  rename_i h4 F4 N4
  k_with_none
  k_with "m stop" => refine stop_here ?_
  rw [mSp_start] at F4
  refine for_rg (a0 := 0) (n := ns.length) rfl
    (fun I i s₁ => ∃ (sv : List Value) (c : Nat) (be pl wo sz : Option Value) (h : Heap) (tk : Nat), s₁ = { s with heap := h, toks := tk } ∧ Fr g L' h (mSp l Sp be pl wo sz) ∧
      News g L' h [(I, itR (0 + (i : Int)) ((ns.length : Int) - (i : Int))), (Sp, listOf sv.toArray c)] ∧ Sp < I ∧ sv.length = i ∧ IntsAre sv ((List.range i).map (spanV ns))) ?_ ?_ ?_ ?_
  · k_steps
    refine rg_at (by assumption) (small_one (by omega) (by omega) (by omega) (by omega)) (by rw [rangeSize_nat]; omega) (by assumption) (by assumption) ?_
    intro I h5 F5 N5 l5
    refine ⟨[], 0, none, none, none, none, h5, _, rfl, F5, ?_, l5 _ (.head _), rfl, .nil⟩
    simpa using N5
  · rintro I i s₁ ⟨sv, c, be, pl, wo, sz, h5, tk5, rfl, F5, N5, hDI, hsl, hsv⟩
    exact (N5 _ (.head _)).1
  · rintro I i s₁ hilt ⟨sv, c, be, pl, wo, sz, h5, tk5, rfl, F5, N5, hDI, hsl, hsv⟩ h6 hit6 hsb
    have hSI' : @LT.lt Nat _ Sp I := hDI
    have hm := N5 _ (.head _)
    have nS := N5 (Sp, listOf sv.toArray c) (.tail _ (.head _))
    have F6 := F5.change hsb hm.2.1 hm.2.2
    have N6 : News g L' h6 [(I, itR (0 + ((i + 1 : Nat) : Int)) ((ns.length : Int) - ((i + 1 : Nat) : Int))), (Sp, listOf sv.toArray c)] := fun q hq => by
      rcases List.mem_cons.mp hq with rfl | hq
      · exact ⟨hit6, hm.2⟩
      · cases List.mem_singleton.mp hq
        exact ⟨(hsb.2 _ (neN (by dsimp only; omega))).trans nS.1, nS.2⟩
    clear F5 N5 F4 N4 hsb
    dsimp only
    k_steps
    unfold Stop
    rename_i Wo hz2 l2 h7 F7 N7
    have hl2 : @LT.lt Nat _ I Wo ∧ @LT.lt Nat _ Sp Wo := l2
    rw [mSp_inner] at F7
    refine for_rg (a0 := 0) (n := ns.length - i) rfl
      (fun I2 j s₁ => ∃ (wv : List Value) (c2 : Nat) (be pl : Option Value) (h : Heap) (tk : Nat), s₁ = { s with heap := h, toks := tk } ∧ Fr g L' h (mSp l Sp be pl (some (.ref Wo)) (some (.int (0 + (i : Int)) tk5))) ∧
        News g L' h [(I2, itR (0 + (j : Int)) (((ns.length - i : Nat) : Int) - (j : Int))), (Wo, listOf wv.toArray c2), (I, itR (0 + ((i + 1 : Nat) : Int)) ((ns.length : Int) - ((i + 1 : Nat) : Int))), (Sp, listOf sv.toArray c)] ∧ Wo < I2 ∧ wv.length = j ∧ IntsAre wv ((List.range j).map (worthV ns i))) ?_ ?_ ?_ ?_
    · k_steps
      refine rg_at (by assumption) (small_one (by omega) (by omega) (by omega) (by omega)) (by rw [rangeSize_nat]; omega) (by assumption) (by assumption) ?_
      intro I2 h8 F8 N8 l8
      refine ⟨[], 0, be, pl, h8, _, rfl, F8, ?_, l8 _ (.head _), rfl, .nil⟩
      simpa using N8
    · rintro I2 j s₁ ⟨wv, c2, be2, pl2, h8, tk8, rfl, F8, N8, hWI, hwl, hwv⟩
      exact (N8 _ (.head _)).1
    · rintro I2 j s₁ hjlt ⟨wv, c2, be2, pl2, h8, tk8, rfl, F8, N8, hWI, hwl, hwv⟩ h9 hit9 hsb9
      have hWI' : @LT.lt Nat _ Wo I2 := hWI
      have hm9 := N8 _ (.head _)
      have F9 := F8.change hsb9 hm9.2.1 hm9.2.2
      have N9 : News g L' h9 [(I2, itR (0 + ((j + 1 : Nat) : Int)) (((ns.length - i : Nat) : Int) - ((j + 1 : Nat) : Int))), (Wo, listOf wv.toArray c2), (I, itR (0 + ((i + 1 : Nat) : Int)) ((ns.length : Int) - ((i + 1 : Nat) : Int))), (Sp, listOf sv.toArray c)] := fun q hq => by
        rcases List.mem_cons.mp hq with rfl | hq
        · exact ⟨hit9, hm9.2⟩
        · have := N8 q (.tail _ hq)
          refine ⟨(hsb9.2 _ (neN ?_)).trans this.1, this.2⟩
          simp only [List.mem_cons, List.not_mem_nil, or_false] at hq
          rcases hq with rfl | rfl | rfl <;> dsimp only <;> omega
      clear F8 N8 F7 N7 hsb9
      k_with_none
      dsimp only
      k_steps
      rename_i n9 c9 h10 i9 e9 p9 o9 b9 p09 l9 D10 ws10 h11 hI11 hC11 l11 h12 tk12 t12 D12 ws12 h13 hI13 hC13 hL13 l13 h14 tk14 t14 h15 F15 N15
      rw [mSp_turn] at F15
      rw [List.push_toArray] at N15
      have hjn : (0 + (j : Int)).toNat = j := by omega
      have hjn1 : (0 + (j : Int) + 1).toNat = j + 1 := by omega
      have hin : (0 + (i : Int)).toNat = i := by omega
      rw [hjn1] at p9
      have hsrt : n9 = sortV (ns.drop (j + 1)) := sorted_eq (p9.trans (sortV_perm _).symm) o9 (sortV_sorted _)
      rw [hjn, hin, hsrt] at N15
      refine ⟨rfl, wv ++ [Value.int (ns.getD j 0 - ((sortV (ns.drop (j + 1))).reverse.take i).sum) tk14], c2 + 1, _, _, h15, _, rfl, F15, fun q hq => N15 q ?_, hWI, ?_, ?_⟩
      · simp only [List.mem_cons, List.not_mem_nil, or_false] at hq ⊢
        rcases hq with h | h | h | h
        · exact .inr (.inr (.inr (.inr (.inl h))))
        · exact .inr (.inr (.inr (.inr (.inr (.inl h)))))
        · exact .inr (.inr (.inr (.inr (.inr (.inr (.inl h))))))
        · exact .inr (.inr (.inr (.inr (.inr (.inr (.inr h))))))
      · rw [List.length_append, hwl]; rfl
      · rw [List.range_succ, List.map_append]
        exact hwv.append (.cons _ _ .nil)
    · rintro I2 s₁ ⟨wv, c2, be2, pl2, h8, tk8, rfl, F8, N8, hWI, hwl, hwv⟩ h9 hx9
      have hWI' : @LT.lt Nat _ Wo I2 := hWI
      have hm9 := N8 _ (.head _)
      have F9 : Fr g L' h9 (mSp l Sp be2 pl2 (some (.ref Wo)) (some (.int (0 + (i : Int)) tk5))) := ⟨F8.ns.extBut hx9 hm9.2.1.symm, fun b ob e => hx9 b ob (fun q => by rw [q, hm9.2.2] at e; cases e) (F8.keep b ob e), F8.above⟩
      have N9 : News g L' h9 [(Wo, listOf wv.toArray c2), (I, itR (0 + ((i + 1 : Nat) : Int)) ((ns.length : Int) - ((i + 1 : Nat) : Int))), (Sp, listOf sv.toArray c)] := fun q hq => by
        have := N8 q (.tail _ hq)
        refine ⟨hx9 _ _ (neN ?_) this.1, this.2⟩
        simp only [List.mem_cons, List.not_mem_nil, or_false] at hq
        rcases hq with rfl | rfl | rfl <;> dsimp only <;> omega
      clear F8 N8 F7 N7
      k_with_none
      dsimp only
      k_steps
      rename_i h10 M t10 k10 hM1 hM2 h11 F11 N11
      rw [List.push_toArray] at N11
      refine ⟨rfl, sv ++ [Value.int M t10], c + 1, _, _, _, _, h11, _, rfl, F11, fun q hq => N11 q (.tail _ hq), hDI, by rw [List.length_append, hsl]; rfl, ?_⟩
      rw [List.range_succ, List.map_append, min_eq hM1 hM2]
      exact hsv.append (.cons _ _ .nil)
  · rintro I s₁ ⟨sv, c, be, pl, wo, sz, h5, tk5, rfl, F5, N5, hDI, hsl, hsv⟩ h6 hx6
    have hSI' : @LT.lt Nat _ Sp I := hDI
    have hm := N5 _ (.head _)
    have nS := N5 (Sp, listOf sv.toArray c) (.tail _ (.head _))
    have F6 : Fr g L' h6 (mSp l Sp be pl wo sz) := ⟨F5.ns.extBut hx6 hm.2.1.symm, fun b ob e => hx6 b ob (fun q => by rw [q, hm.2.2] at e; cases e) (F5.keep b ob e), F5.above⟩
    have N6 : News g L' h6 [(Sp, listOf sv.toArray c)] := fun q hq => by
      cases List.mem_singleton.mp hq
      exact ⟨hx6 _ _ (neN (by dsimp only; omega)) nS.1, nS.2⟩
    clear F5 N5 F4 N4
    k_with_none
    dsimp only
    k_steps
    have hgL := F6.above
    refine back_ F6 ⟨[(Sp, listOf sv.toArray c)], fun q hq => ?_, fun hb => ⟨Sp, sv, c, rfl, hsv, .inr (.head _)⟩⟩
    cases List.mem_singleton.mp hq
    exact ⟨(N6 _ (.head _)).1, Nat.le_trans hgL (Nat.le_of_lt hLSp)⟩
end Mine

-- part C13
namespace Mine
open PySem PySem.W PySem.Spec PySem.Calls PyProof.Rows
local macro_rules | `(tactic| walk_at "exec Assign cons ListComp") => `(tactic| (k_dflt (refine LCg.Assign_ListComp_U (F₀ := by k_asm) (by rfl) (by with_unfolding_all rfl) (by with_unfolding_all rfl) (by decide) (by rfl) (by decide) (by rfl) (by rfl) (by rfl) ?_)))
local macro_rules | `(tactic| walk_at "CompSrc") => `(tactic| refine stop_here ?_)
local macro_rules | `(tactic| walk_at "CompEnd") => `(tactic| refine stop_here ?_)
local macro_rules | `(tactic| walk_at "call builtin:sum") => `(tactic| k_extra "m sum")
theorem sum_any {prog : Program} {w : World} {A : Around} {E : Value → Shared → Prop} {s : Shared} {h₀ : Heap} {L : Addr} {m : Str → Option Value} {news : List (Addr × Obj)} {l : Addr} {items : Array Value} {Q : Value → Shared → Prop} (F : Fr h₀ L s.heap m) (N : News h₀ L s.heap news)
    (hh : A.handled = none) (hl : s.heap.IsList l items) (hall : AllInts items) (h : ∀ (z : Int) t' h' tk, Fr h₀ L h' m → News h₀ L h' news → Q (.int z t') { s with heap := h', toks := tk }) :
    wpAny (model prog w) A (call (.builtin "sum") [.ref l]) Q E s := by
  obtain ⟨xs, rfl⟩ := hall.items
  exact sum_intListG hh hl fun h' tk t' hk => h _ t' h' tk (fr_stays F hk) (news_stays N hk)
variable {w : World} {p : Program} {loose : List Str} {mean : ExcName → Option Value} {mg mb : Str → Option Value} {h : Heap} {l : Addr} {vs : List Value} {ns : List Int}
set_option maxHeartbeats 8000000 in
theorem numbers_spec (hl : h.IsList l vs.toArray) (hi : IntsAre vs ns) (hlen : ns.length ≤ 63) :
    Tr w p loose mean mg mb 1 (call (.ref 141) [.ref l]) h (fun h0 h'' r => ∃ xs own, NewOwn h0 h'' own ∧ (∀ hb, RL hb own r xs) ∧ 2 ≤ xs.length ∧ xs.length ≤ 4 ∧ ∀ x ∈ xs, -128 ≤ x ∧ x ≤ 127) := by
  refine' enterC (binds := [(Str.ofString "script", .ref l)]) ?k6 ?k7 ?k9 ?kB ?kD ?kS ?c2 ?c3 ?c4 ?cD
  case k6 => k_is
  case k7 => k_is
  case k9 => exact fun s _ => BindsTo.of_eq rfl
  case kB => exact rfl
  case kD => decide +kernel
  case c2 => exact rfl
  case c3 => exact rfl
  case c4 => exact rfl
  case cD => exact Nat.succ_pos _
  intro dp un gd env outer A₀ base g L' h₁ s tk cells hs hdp hun hke F N Y Bl X T
  k_fold
  k_cells Y
  have hlg : g.IsList l vs.toArray := stays_list hs hl
  have hvl : vs.length = ns.length := hi.length
  rename_i oS oP dS dP
  replace dP : oP.data = .cell (some (.ref l)) := dP
  replace dS : oS.data = .cell none := dS
  replace F : Fr g L' h₁ (fun _ => none) := F
  k_with_none
  k_steps
  unfold Stop
  rename_i lS hz1 lz hz2 oT FT NT dT hz3 tkz tz1 tz2 tz3 hR F5 N5 hk5
  generalize hled : [(lS, _), (L' + 1 + 1, oT), (L' + 1, oP)] = led at N5
  refine LCg.CompSrc.range (n := 4) rfl F5 N5 hR (small_one (by decide) (by decide) (by decide) (by decide)) (by decide) (by rw [sizeLine_eq]; omega) fun gx => comp_inv
    (fun i ys news => news = led ∧ ∃ xs : List Int, IntsAre ys xs ∧ xs.length = i ∧ ∀ x ∈ xs, -128 ≤ x ∧ x ≤ 127) 4 ?_ ?_ _ 0 _ _ (by simp) ⟨rfl, [], .nil, rfl, by simp⟩
  · rintro i ys news hlt ⟨rfl, xs, hxs, hxl, hxb⟩ v I oI C oC D' m₂ h2 tk2 E' ⟨tv, rfl⟩ hns hm2 F2 N2 hoff hne3
    subst hled
    clear F5 N5 FT NT
    k_steps
    rename News _ _ _ _ => Nx
    dsimp only at Nx
    have hsl := (Nx _ (.head _)).1
    dsimp only at hsl
    have hpk := (hi.pick (some (0 + (i : Int))) (some 12) (some 4)).allInts
    refine sum_any (by assumption) Nx rfl ⟨_, hsl, rfl, _, rfl⟩ hpk ?_
    intro z tz h5 tk5 F5 N5
    clear Nx
    dsimp only
    k_steps
    unfold Stop
    have hz := Int.fmod_nonneg_of_pos ([6, -3, 13, 5].getD (0 + (i : Int)).toNat 0 + z + 128) (b := 256) (by decide)
    have hz2 := Int.fmod_lt_of_pos ([6, -3, 13, 5].getD (0 + (i : Int)).toNat 0 + z + 128) (b := 256) (by decide)
    refine LCg.CompEnd.intro F5 N5 _ (fun q hq => .tail _ hq) hoff trivial ⟨rfl, xs ++ [([6, -3, 13, 5].getD (0 + (i : Int)).toNat 0 + z + 128).fmod 256 - 128], hxs.append (.cons _ _ .nil), by rw [List.length_append, hxl]; rfl, fun x hx => ?_⟩
    rcases List.mem_append.mp hx with hx | hx
    · exact hxb x hx
    · rw [List.mem_singleton.mp hx]
      omega
  · rintro ys news ⟨rfl, xs, hxs, hxl, hxb⟩
    subst hled
    intro Dw h2 tk2 F2 N2 hoff
    dsimp only
    clear F5 N5 FT NT
    k_steps
    rename_i Dn wn h6 F6 N6 hI6 hC6 hL6 l6
    have hz := Int.fmod_nonneg_of_pos (ns.length : Int) (b := 3) (by decide)
    have hz2 := Int.fmod_lt_of_pos (ns.length : Int) (b := 3) (by decide)
    have hgL := F6.above
    refine back_ F6 ⟨_, [(Dn, listOf wn.toArray 0)], fun q hq => ?_, fun hb => ⟨Dn, wn, 0, rfl, hI6, .inr (.head _)⟩, by rw [hC6, hxl]; omega, by rw [hC6, hxl]; omega, fun x hx => hxb x (List.mem_of_mem_take hx)⟩
    cases List.mem_singleton.mp hq
    exact ⟨(N6 _ (.head _)).1, Nat.le_trans hgL (Nat.le_of_lt (Nat.lt_trans (Nat.lt_succ_self _) l6.2.2.2))⟩
end Mine

-- part C14
namespace Mine
open PySem PySem.W PySem.Spec PySem.Calls PyProof.Rows

noncomputable def rangeI (n : Nat) : List Int := (List.range n).map fun (i : Nat) => (i : Int)
theorem paired_filter {p : Int → Bool} {f : Int → Value → Prop} : ∀ {vs : List Value} {zs : List Int} {ys : List Value}, IntsAre vs zs →
    Paired (fun v y => ∃ a t, v = Value.int a t ∧ f a y) (vs.filter fun v => match v with | .int a _ => p a | _ => false) ys → Paired f (zs.filter p) ys := by
  intro vs zs ys hi
  induction hi generalizing ys with
  | nil => intro h; cases h; exact .nil
  | cons n t hr ih =>
    intro h
    rw [List.filter_cons] at h ⊢
    dsimp only at h
    by_cases hp : p n = true
    · rw [if_pos hp] at h ⊢
      cases h with
      | cons h1 h2 =>
        obtain ⟨a, t', e, hf⟩ := h1
        cases e
        exact .cons hf (ih h2)
    · rw [if_neg hp] at h ⊢
      exact ih h
theorem ints_of_at : ∀ (vs : List Value) (k : Nat), (∀ (j : Nat) v, vs[j]? = some v → ∃ t, v = Value.int ((k + j : Nat) : Int) t) → IntsAre vs ((List.range' k vs.length).map fun (i : Nat) => (i : Int))
  | [], _, _ => .nil
  | v :: r, k, h => by
    obtain ⟨t, e⟩ := h 0 v rfl
    rw [List.length_cons, List.range'_succ, List.map_cons, e]
    refine .cons _ _ (ints_of_at r (k + 1) fun j v' hv => ?_)
    obtain ⟨t', e'⟩ := h (j + 1) v' (by simpa using hv)
    exact ⟨t', by rw [e']; congr 1; omega⟩

section
variable {prog : Program} {w : World} {A : Around} {E : Value → Shared → Prop} {s : Shared} {h₀ : Heap} {L : Addr} {m : Str → Option Value} {env : Env} {news : List (Addr × Obj)}
noncomputable def RngSrc (h₀ : Heap) (L : Addr) (m : Str → Option Value) (news : List (Addr × Obj)) (n : Nat) (s : Shared) (xv : Value) (s₁ : Shared) : Prop :=
  ∃ r b0 t u v, xv = .ref r ∧ IsRange s₁.heap r 0 b0 1 t u v ∧ Builtin.Range.small 0 b0 1 = true ∧ Builtin.Range.rangeSize 0 b0 1 = (n : Int) ∧ Fr h₀ L s₁.heap m ∧ News h₀ L s₁.heap news ∧ (∃ h' tk', s₁ = { s with heap := h', toks := tk' })
theorem asg_range {elt iter test : Expr} {x y : Str} {px py : Pos} {scope : Scope} {cl : List (Str × Addr)} {pos spos : Pos} {Q : Flow → Shared → Prop} {n : Nat} (p : Int → Bool) (f : Int → Value → Prop) (hh : A.handled = none)
    (hsw : swapsWith (.ListComp elt [⟨.Name x px, iter, [test], 0⟩] scope pos) (some (.Name y py)) spos.line env = pure true)
    (hclos : closureFor scope env = pure cl) (hcell : ∀ z ∈ scope.names, z.2 ≠ .cell) (hkind : scope.kind = .function)
    (hnames : ∀ z ∈ scope.names, z.2 = .local → scope.names.lookup z.1 = some .local) (hx : scope.names.lookup x = some .local)
    (hy : env.kindOf y = some .local) (hp : (env.scope.kind == .class || (env.scope.kind == .module && env.locals != env.globals)) = false) (hsz : n ≤ sizeLine)
    (heval : wpAny (model prog w) A (eval iter env) (RngSrc h₀ env.locals m news n s) E s)
    (htest : ∀ C (i : Nat) t s₃ m₃ (E' : Value → Shared → Prop), i < n → s₃.heap.Ns C m₃ → m₃ x = some (.int (i : Int) t) → h₀.StaysIn s₃.heap → (∀ q ∈ news, s₃.heap.get? q.1 = some q.2) → wpAny (model prog w) A (isTrue test (compEnvC scope cl C env) (eval test (compEnvC scope cl C env))) (fun ok s₄ => ok = p (i : Int) ∧ Keeps s₃ s₄) E' s₃)
    (helt : ∀ C (i : Nat) t s₃ m₃ (E' : Value → Shared → Prop), i < n → s₃.heap.Ns C m₃ → m₃ x = some (.int (i : Int) t) → h₀.StaysIn s₃.heap → (∀ q ∈ news, s₃.heap.get? q.1 = some q.2) → wpAny (model prog w) A (eval elt (compEnvC scope cl C env)) (fun y s₄ => f (i : Int) y ∧ Keeps s₃ s₄) E' s₃)
    (k : ∀ D h' tk ys nn, Fr h₀ env.locals h' (fun z => if z = y then some (.ref D) else m z) → News h₀ env.locals h' ((D, listOf ys nn) :: news) → (∀ q ∈ news, q.1 ≠ D) → Paired f ((rangeI n).filter p) ys.toList → Q .next { s with heap := h', toks := tk })
    (hs : ∀ x, foldedSetIterable iter env x = pure x := by intro _; rfl) :
    wpAny (model prog w) A (exec (.Assign [.Name y py] (.ListComp elt [⟨.Name x px, iter, [test], 0⟩] scope pos) spos) env) Q E s := by
  refine wpAny_Assign_ListComp_free (fun v => match v with | .int a _ => p a | _ => false) (fun v y => ∃ a t, v = Value.int a t ∧ f a y) hsw hclos hcell hkind hnames hx hy hp (wpAny_mono heval (fun xv s₁ h₁ => ?_) fun _ _ e => e) hs
  obtain ⟨r, b0, t, u, v, rfl, hr, hsm, hn, F, N, h1, tk1, rfl⟩ := h₁
  refine wpAny_pyIter_range hr hsm ?_
  dsimp only at *
  have up : ∀ b o, h1.get? b = some o → (h1.push { cls := .type "range_iterator", data := .fields #[rawInt 0, rawInt (Builtin.Range.rangeSize 0 b0 1), rawInt 1] }).get? b = some o := fun b o e => Heap.get?_push_of_some _ e
  have nI : ∀ b o, h1.get? b = some o → b ∉ [h1.objs.size] := fun b o e hm => Nat.lt_irrefl _ ((List.mem_singleton.mp hm) ▸ Heap.lt_size e)
  have hLt := F.ns.lt
  refine ⟨h1.objs.size, [h1.objs.size], [h1.objs.size], n, _, _, m, rfl, ((Walks.range hh h1.objs.size 0 1 n).bound : Walks prog w A h1.objs.size [h1.objs.size] [h1.objs.size] n (fun i v => i < n ∧ ∃ t, v = .int (0 + i * 1) t) (fun i h => IsRangeIter h h1.objs.size (0 + (i : Nat) * 1) ((n : Int) - (i : Nat)) 1)), hsz, by show IsRangeIter _ _ _ _ _; rw [hn]; simpa using Heap.get?_push_size _ rfl, fun b hb => ?_, fun hm => ?_, F.ns.keeps up, ⟨?_, ?_⟩, ?_⟩
  · rw [List.mem_singleton.mp hb]
    show h1.objs.size < (h1.push _).objs.size
    rw [Heap.size_push]; exact Nat.lt_succ_self _
  · exact Nat.lt_irrefl _ ((List.mem_singleton.mp hm) ▸ hLt)
  · rintro C i v s₃ m₃ E' hC ⟨hin, tv, rfl⟩ hns hm hk htk
    rw [show (0 : Int) + (i : Int) * 1 = (i : Int) from by omega] at hm ⊢
    exact wpAny_tests_one (htest C i tv s₃ m₃ E' hin hns hm (fun b o e => hk b o (nI b o (F.keep b o e)) (up b o (F.keep b o e))) (fun q hq => hk _ _ (nI _ _ (N q hq).1) (up _ _ (N q hq).1)))
  · rintro C i v s₃ m₃ E' hC ⟨hin, tv, rfl⟩ hpv hns hm hk htk
    rw [show (0 : Int) + (i : Int) * 1 = (i : Int) from by omega] at hm ⊢
    exact wpAny_mono (helt C i tv s₃ m₃ E' hin hns hm (fun b o e => hk b o (nI b o (F.keep b o e)) (up b o (F.keep b o e))) (fun q hq => hk _ _ (nI _ _ (N q hq).1) (up _ _ (N q hq).1))) (fun y s₄ hq => ⟨⟨_, _, rfl, hq.1⟩, hq.2⟩) fun _ _ e => e
  · intro D h' tk ys vs' hD hlD hplD hlen hP hF hn' hk
    obtain ⟨nn, hpl⟩ := hplD
    have hi' : IntsAre vs' (rangeI n) := by
      have := ints_of_at vs' 0 fun j v hv => by
        obtain ⟨_, t, e⟩ := hP j v hv
        exact ⟨t, by rw [e]; congr 1; omega⟩
      rw [hlen, ← List.range_eq_range'] at this
      exact this
    have hDn : h1.get? D = none := by
      cases e : h1.get? D with
      | none => rfl
      | some o => have := up D o e; rw [hD] at this; cases this
    have hD0 : h₀.get? D = none := by
      cases e : h₀.get? D with
      | none => rfl
      | some o => have := F.keep D o e; rw [hDn] at this; cases this
    have hDL : D ≠ env.locals := fun q => by
      obtain ⟨oL, _, _, hL, _⟩ := F.ns
      rw [q, hL] at hDn; cases hDn
    have hL₀ : h₀.get? env.locals = none := Heap.get?_none_of_le F.above
    have st : ∀ b o, b ≠ env.locals → h1.get? b = some o → h'.get? b = some o := fun b o hb e => hk b o hb (nI b o e) (up b o e)
    refine k D h' tk ys nn ⟨hn', fun b o e => st b o (fun q => by rw [q, hL₀] at e; cases e) (F.keep b o e), F.above⟩ (fun q hq => ?_) (fun q hq e => ?_) (paired_filter hi' hF)
    · rcases List.mem_cons.mp hq with rfl | hq
      · exact ⟨hpl, hDL, hD0⟩
      · exact ⟨st _ _ (N q hq).2.1 (N q hq).1, (N q hq).2⟩
    · have := (N q hq).1; rw [e, hDn] at this; cases this
end

noncomputable def bitM (m a : Int) : Bool := Builtin.bitAnd (m.fdiv (2 ^ a.toNat)) 1 != 0
noncomputable def chosen (m : Int) (ns : List Int) (n : Nat) : List Int := ((rangeI n).filter (bitM m)).map fun a => ns.getD a.toNat 0
noncomputable def cssV (ns : List Int) (n j i : Nat) : List (List Int) := ((List.range i).filter fun (m : Nat) => (chosen (1 + (m : Int)) ns n).length == j + 1).map fun (m : Nat) => chosen (1 + (m : Int)) ns n
theorem cssV_hit {ns : List Int} {n j i : Nat} (h : (chosen (1 + (i : Int)) ns n).length = j + 1) : cssV ns n j (i + 1) = cssV ns n j i ++ [chosen (1 + (i : Int)) ns n] := by
  unfold cssV
  rw [List.range_succ, List.filter_append, List.map_append]
  simp [h]
theorem cssV_miss {ns : List Int} {n j i : Nat} (h : (chosen (1 + (i : Int)) ns n).length ≠ j + 1) : cssV ns n j (i + 1) = cssV ns n j i := by
  unfold cssV
  rw [List.range_succ, List.filter_append, List.map_append]
  simp [h]
/-- refs to lists of ints among the objects told -/
noncomputable def ChsAre (own : List (Addr × Obj)) : List Value → List (List Int) → Prop
  | [], [] => True
  | e :: r, c :: t => (∃ (a : Addr) (ys : Array Value) (n : Nat), e = .ref a ∧ (a, listOf ys n) ∈ own ∧ IntsAre ys.toList c) ∧ ChsAre own r t
  | _, _ => False
theorem ChsAre.mono {own own' : List (Addr × Obj)} (k : ∀ q ∈ own, q ∈ own') : ∀ {rs : List Value} {cs : List (List Int)}, ChsAre own rs cs → ChsAre own' rs cs
  | [], [], h => h
  | e :: r, c :: t, ⟨⟨a, ys, n, h1, h2, h3⟩, hr⟩ => ⟨⟨a, ys, n, h1, k _ h2, h3⟩, ChsAre.mono k hr⟩
  | [], _ :: _, h => h.elim
  | _ :: _, [], h => h.elim
theorem ChsAre.snoc {own : List (Addr × Obj)} {a : Addr} {ys : Array Value} {n : Nat} {c : List Int} (hm : (a, listOf ys n) ∈ own) (hi : IntsAre ys.toList c) : ∀ {rs : List Value} {cs : List (List Int)}, ChsAre own rs cs → ChsAre own (rs ++ [.ref a]) (cs ++ [c])
  | [], [], h => ⟨⟨a, ys, n, rfl, hm, hi⟩, trivial⟩
  | e :: r, d :: t, ⟨h1, hr⟩ => ⟨h1, ChsAre.snoc hm hi hr⟩
  | [], _ :: _, h => h.elim
  | _ :: _, [], h => h.elim
theorem ChsAre.length {own : List (Addr × Obj)} : ∀ {rs : List Value} {cs : List (List Int)}, ChsAre own rs cs → rs.length = cs.length
  | [], [], _ => rfl
  | e :: r, c :: t, ⟨_, hr⟩ => congrArg (· + 1) (ChsAre.length hr)
  | [], _ :: _, h => h.elim
  | _ :: _, [], h => h.elim
theorem ChsAre.get {own : List (Addr × Obj)} : ∀ {rs : List Value} {cs : List (List Int)}, ChsAre own rs cs → ∀ (i : Nat) e c, rs[i]? = some e → cs[i]? = some c → ∃ (a : Addr) (ys : Array Value) (n : Nat), e = .ref a ∧ (a, listOf ys n) ∈ own ∧ IntsAre ys.toList c
  | e :: r, c :: t, ⟨h1, hr⟩, 0, e', c', h2, h3 => by simp at h2 h3; subst h2 h3; exact h1
  | e :: r, c :: t, ⟨h1, hr⟩, i + 1, e', c', h2, h3 => ChsAre.get hr i e' c' (by simpa using h2) (by simpa using h3)
  | [], [], _, i, e', c', h2, h3 => by simp at h2
  | [], _ :: _, h, _, _, _, _, _ => h.elim
  | _ :: _, [], h, _, _, _, _, _ => h.elim
theorem paired_ints {ns : List Int} : ∀ {zs : List Int} {ys : List Value}, Paired (fun (a : Int) y => ∃ t, y = Value.int (ns.getD a.toNat 0) t) zs ys → IntsAre ys (zs.map fun a => ns.getD a.toNat 0)
  | _, _, .nil => .nil
  | _, _, .cons ⟨t, e⟩ r => by rw [e]; exact .cons _ _ (paired_ints r)
end Mine

-- part C15
namespace Mine
open PySem PySem.W PySem.Spec PySem.Calls PyProof.Rows

noncomputable def updL (D : Addr) (o' : Obj) (l : List (Addr × Obj)) : List (Addr × Obj) := l.map fun q => if q.1 = D then (D, o') else q
theorem updL_off {D : Addr} {o' : Obj} : ∀ {l : List (Addr × Obj)}, (∀ q ∈ l, q.1 ≠ D) → updL D o' l = l
  | [], _ => rfl
  | q :: r, h => by
    show (if q.1 = D then (D, o') else q) :: updL D o' r = _
    rw [if_neg (h q (.head _)), updL_off fun q hq => h q (.tail _ hq)]
theorem upd_of_mem {D : Addr} {o o' : Obj} : ∀ {l : List (Addr × Obj)}, (l.map Prod.fst).Nodup → (D, o) ∈ l → Upd D o o' l (updL D o' l)
  | q :: r, hn, hm => by
    rw [List.map_cons, List.nodup_cons] at hn
    rcases List.mem_cons.mp hm with rfl | hm
    · have hr : ∀ p ∈ r, p.1 ≠ D := fun p hp e => hn.1 (List.mem_map.mpr ⟨p, hp, e⟩)
      show Upd D o o' _ ((if D = D then (D, o') else (D, o)) :: updL D o' r)
      rw [if_pos rfl, updL_off hr]
      exact .head hr
    · have hq : q.1 ≠ D := fun e => hn.1 (List.mem_map.mpr ⟨_, hm, e.symm⟩)
      show Upd D o o' _ ((if q.1 = D then (D, o') else q) :: updL D o' r)
      rw [if_neg hq]
      exact .tail hq (upd_of_mem hn.2 hm)
theorem updL_fst {D : Addr} {o' : Obj} (l : List (Addr × Obj)) : (updL D o' l).map Prod.fst = l.map Prod.fst := by
  unfold updL
  rw [List.map_map]
  refine List.map_congr_left fun q _ => ?_
  show (if q.1 = D then (D, o') else q).1 = q.1
  by_cases h : q.1 = D
  · rw [if_pos h]; exact h.symm
  · rw [if_neg h]
theorem mem_updL {D : Addr} {o' : Obj} {l : List (Addr × Obj)} {q : Addr × Obj} (h : q ∈ l) (hq : q.1 ≠ D) : q ∈ updL D o' l :=
  List.mem_map.mpr ⟨q, h, if_neg hq⟩
theorem mem_updL_self {D : Addr} {o o' : Obj} {l : List (Addr × Obj)} (h : (D, o) ∈ l) : (D, o') ∈ updL D o' l :=
  List.mem_map.mpr ⟨_, h, if_pos rfl⟩

noncomputable abbrev mGr (G : Addr) (ch : Option Value) : Str → Option Value := fun y => if y = Str.ofString "choice" then ch else if y = Str.ofString "groups" then some (.ref G) else none
theorem mGr_start (G : Addr) : (fun y => if y = Str.ofString "groups" then some (Value.ref G) else none) = mGr G none := by
  funext y
  by_cases h0 : y = Str.ofString "choice"
  · subst h0; rfl
  · simp only [mGr, h0, if_false]
theorem mGr_turn (G : Addr) (ch : Option Value) (v : Value) : (fun y => if y = Str.ofString "choice" then some v else mGr G ch y) = mGr G (some v) := by
  funext y
  by_cases h0 : y = Str.ofString "choice"
  · subst h0; rfl
  · simp only [mGr, h0, if_false]
theorem chosen_len_le (m : Int) (ns : List Int) (n : Nat) : (chosen m ns n).length ≤ n := by
  unfold chosen rangeI
  rw [List.length_map]
  refine Nat.le_trans (List.length_filter_le _ _) ?_
  simp
theorem chosen_pos (n i : Nat) (ns : List Int) (hlo : 2 ≤ n) (hn : n ≤ 4) (hi : i < 2 ^ n - 1) : 0 < (chosen (1 + (i : Int)) ns n).length := by
  unfold chosen
  rw [List.length_map]
  have : n = 2 ∨ n = 3 ∨ n = 4 := by omega
  rcases this with rfl | rfl | rfl
  · have : ∀ i, i < 2 ^ 2 - 1 → 0 < ((rangeI 2).filter (bitM (1 + ((i : Nat) : Int)))).length := by decide +kernel
    exact this i hi
  · have : ∀ i, i < 2 ^ 3 - 1 → 0 < ((rangeI 3).filter (bitM (1 + ((i : Nat) : Int)))).length := by decide +kernel
    exact this i hi
  · have : ∀ i, i < 2 ^ 4 - 1 → 0 < ((rangeI 4).filter (bitM (1 + ((i : Nat) : Int)))).length := by decide +kernel
    exact this i hi
theorem cssV_pos {ns : List Int} {j : Nat} (hlo : 2 ≤ ns.length) (hn : ns.length ≤ 4) (hj : j < ns.length) : 0 < (cssV ns ns.length j (2 ^ ns.length - 1)).length := by
  unfold cssV chosen
  rw [List.length_map]
  simp only [List.length_map]
  have : ns.length = 2 ∨ ns.length = 3 ∨ ns.length = 4 := by omega
  rcases this with e | e | e <;> rw [e] at hj ⊢
  · have : ∀ j, j < 2 → 0 < ((List.range (2 ^ 2 - 1)).filter fun (m : Nat) => ((rangeI 2).filter (bitM (1 + (m : Int)))).length == j + 1).length := by decide +kernel
    exact this j hj
  · have : ∀ j, j < 3 → 0 < ((List.range (2 ^ 3 - 1)).filter fun (m : Nat) => ((rangeI 3).filter (bitM (1 + (m : Int)))).length == j + 1).length := by decide +kernel
    exact this j hj
  · have : ∀ j, j < 4 → 0 < ((List.range (2 ^ 4 - 1)).filter fun (m : Nat) => ((rangeI 4).filter (bitM (1 + (m : Int)))).length == j + 1).length := by decide +kernel
    exact this j hj
theorem cssV_mem {ns : List Int} {j i : Nat} {c : List Int} (h : c ∈ cssV ns ns.length j i) : c.length = j + 1 ∧ c.length ≤ ns.length ∧ ∀ x ∈ c, x ∈ ns := by
  unfold cssV at h
  obtain ⟨m, hm, rfl⟩ := List.mem_map.mp h
  have := (List.mem_filter.mp hm).2
  refine ⟨by simpa using this, chosen_len_le _ _ _, fun x hx => ?_⟩
  unfold chosen at hx
  obtain ⟨a, ha, rfl⟩ := List.mem_map.mp hx
  have ha := (List.mem_filter.mp ha).1
  unfold rangeI at ha
  obtain ⟨b, hb, rfl⟩ := List.mem_map.mp ha
  have hb := List.mem_range.mp hb
  rw [Int.toNat_natCast, List.getD, List.getElem?_eq_getElem hb]
  exact List.getElem_mem hb
theorem cssV_len (ns : List Int) (n j i : Nat) : (cssV ns n j i).length ≤ i := by
  unfold cssV
  rw [List.length_map]
  refine Nat.le_trans (List.length_filter_le _ _) ?_
  simp

local macro_rules | `(tactic| walk_at "call builtin:list.append") => `(tactic| k_extra "m append")
local macro_rules | `(tactic| walk_at "exec Assign cons ListComp") => `(tactic| k_extra "m comp")
local macro_rules | `(tactic| walk_at "CompSrc") => `(tactic| refine stop_here ?_)
local macro_rules | `(tactic| walk_at "CompEnd") => `(tactic| refine stop_here ?_)
local macro_rules | `(tactic| walk_at "exec For Name Call cons nil") => `(tactic| refine stop_here ?_)
local macro_rules | `(tactic| walk_at "RgAt") => `(tactic| refine stop_here ?_)
local macro_rules | `(tactic| walk_at "RngSrc") => `(tactic| refine stop_here ?_)
variable {w : World} {p : Program} {loose : List Str} {mean : ExcName → Option Value} {mg mb : Str → Option Value} {h : Heap} {D : Nat} {P : Int → Prop} {l : Addr} {vs : List Value} {ns : List Int}

noncomputable def NewN (h0 h'' : Heap) (own : List (Addr × Obj)) : Prop := ∀ q ∈ own, h''.get? q.1 = some q.2 ∧ h0.get? q.1 = none
theorem newN_news {h₀ h0 h' : Heap} {L : Addr} {m : Str → Option Value} {own : List (Addr × Obj)} (F : Fr h₀ L h0 m) (H : NewN h0 h' own) : News h₀ L h' own := fun q hq => by
  refine ⟨(H q hq).1, fun e => ?_, ?_⟩
  · obtain ⟨oL, _, _, hL, _⟩ := F.ns
    have := (H q hq).2
    rw [e, hL] at this; cases this
  · cases e : h₀.get? q.1 with
    | none => rfl
    | some o => have := F.keep _ _ e; rw [(H q hq).2] at this; cases this
noncomputable def gssV (ns : List Int) : List (List (List Int)) := (List.range ns.length).map fun j => cssV ns ns.length j (2 ^ ns.length - 1)
set_option maxHeartbeats 8000000 in
theorem groups_spec (hl : h.IsList l vs.toArray) (hi : IntsAre vs ns) (hlo : 2 ≤ ns.length) (hlen : ns.length ≤ 4) (hP : ∀ x ∈ ns, P x) :
    Tr w p loose mean mg mb 1 (call (.ref 105) [.ref l]) h (fun h0 h'' r => ∃ own, NewN h0 h'' own ∧ ∀ hb : Heap, (∀ q ∈ own, hb.get? q.1 = some q.2) → GrpsS P hb r (gssV ns)) := by
  refine' enterC (binds := [(Str.ofString "numbers", .ref l)]) ?k6 ?k7 ?k9 ?kB ?kD ?kS ?c2 ?c3 ?c4 ?cD
  case k6 => k_is
  case k7 => k_is
  case k9 => exact fun s _ => BindsTo.of_eq rfl
  case kB => exact rfl
  case kD => decide +kernel
  case c2 => exact rfl
  case c3 => exact rfl
  case c4 => exact rfl
  case cD => exact Nat.succ_pos _
  intro dp un gd env outer A₀ base g L' h₁ s tk cells hs hdp hun hke F N Y Bl X T
  k_fold
  k_cells Y
  rename_i o1 o2 d1 d2
  replace d1 : o1.data = .cell none := d1
  replace d2 : o2.data = .cell (some (.ref l)) := d2
  replace F : Fr g L' h₁ (fun _ => none) := F
  have hlg : g.IsList l vs.toArray := stays_list hs hl
  have hvl : vs.length = ns.length := hi.length
  k_with_none
  k_with "m comp" => k_dflt (refine LCg.Assign_ListComp_U (F₀ := by k_asm) (by rfl) (by with_unfolding_all rfl) (by with_unfolding_all rfl) (by decide) (by rfl) (by decide) (by rfl) (by rfl) (by rfl) ?_)
  k_steps
  unfold Stop
  refine LCg.CompSrc.base rfl F N hlg (by rw [List.size_toArray, hvl, sizeLine_eq]; omega) fun gx => comp_inv
    (fun i ys news => ∃ as : List Addr, ys = as.map Value.ref ∧ as.length = i ∧ as.Nodup ∧ (∀ a ∈ as, L' + 1 + 1 < a) ∧ news = as.reverse.map (fun a => (a, listOf #[] 0)) ++ [(L' + 1 + 1, o1), (L' + 1, o2)]) vs.length ?_ ?_ _ 0 _ _ (by simp) ⟨[], rfl, rfl, .nil, (by intro q hq; cases hq), rfl⟩
  · rintro i ys news hlt ⟨as, rfl, hal, hnd, hoa, rfl⟩ v I oI C oC D' m₂ h2 tk2 E' hv hns hm2 F2 N2 hoff hne3
    k_steps
    rename_i l' h' F' N' l1
    unfold Stop
    obtain ⟨a1, a2, a3, a4⟩ := l1
    have hgt := ktn_ltOf a4
    refine LCg.CompEnd.intro F' N' ((l', listOf #[] 0) :: (as.reverse.map (fun a => (a, listOf #[] 0)) ++ [(L' + 1 + 1, o1), (L' + 1, o2)])) (fun q hq => ?_) ⟨⟨Nat.ne_of_gt a1, Nat.ne_of_gt a2, Nat.ne_of_gt a3⟩, hoff⟩ (.inl hlg) ⟨as ++ [l'], by simp, by simp [hal], ?_, ?_, by simp⟩
    · simp only [List.mem_cons] at hq ⊢
      rcases hq with h | h | h | h | h
      · exact .inr (.inl h)
      · exact .inr (.inr (.inl h))
      · exact .inr (.inr (.inr (.inl h)))
      · exact .inl h
      · exact .inr (.inr (.inr (.inr h)))
    · refine List.nodup_append.mpr ⟨hnd, by simp, fun a ha b hb => ?_⟩
      rw [List.mem_singleton.mp hb]
      exact Nat.ne_of_lt (hgt (a, listOf #[] 0) (List.mem_append.mpr (.inl (List.mem_map.mpr ⟨a, List.mem_reverse.mpr ha, rfl⟩))))
    · intro a ha
      rcases List.mem_append.mp ha with ha | ha
      · exact hoa a ha
      · rw [List.mem_singleton.mp ha]
        exact hgt _ (List.mem_append.mpr (.inr (.head _)))
  rintro ys news ⟨as, rfl, hal, hnd, hoa, rfl⟩
  intro G h2 tk2 F2 N2 hoff
  dsimp only
  clear F N
  k_with "m comp" => refine stop_here ?_
  k_steps
  unfold Stop
  rw [hvl] at hal
  have hoffm := off1_mem hoff
  replace F2 : Fr g L' h2 (mGr G none) := mGr_start G ▸ F2
  have N3 : News g L' h2 ((G, LCg.lst (as.map Value.ref)) :: (L' + 1 + 1, o1) :: (L' + 1, o2) :: as.reverse.map (fun a => (a, listOf #[] 0))) := fun q hq => N2 q (by
    simp only [List.mem_cons, List.mem_append, List.not_mem_nil, or_false] at hq ⊢
    rcases hq with h | h | h | h
    · exact .inl h
    · exact .inr (.inr (.inl h))
    · exact .inr (.inr (.inr h))
    · exact .inr (.inl h))
  have hnd0 : (((G, LCg.lst (as.map Value.ref)) :: (L' + 1 + 1, o1) :: (L' + 1, o2) :: as.reverse.map (fun a => (a, listOf #[] 0))).map Prod.fst).Nodup := by
    simp only [List.map_cons, List.map_map, List.nodup_cons]
    have hq : ∀ b, b ∈ (as.reverse.map fun a => (a, listOf #[] 0)).map Prod.fst → b ∈ as := fun b hb => by
      rw [List.map_map] at hb
      obtain ⟨a, ha, rfl⟩ := List.mem_map.mp hb
      exact List.mem_reverse.mp ha
    have hz : ∀ b ∈ as, @LT.lt Nat _ (L' + 1 + 1) b := hoa
    refine ⟨fun hm => ?_, fun hm => ?_, fun hm => ?_, ?_⟩
    · rcases List.mem_cons.mp hm with e | hm
      · exact hoffm (L' + 1 + 1, o1) (by simp) e.symm
      rcases List.mem_cons.mp hm with e | hm
      · exact hoffm (L' + 1, o2) (by simp) e.symm
      · rw [← List.map_map] at hm
        exact hoffm (G, listOf #[] 0) (List.mem_append.mpr (.inl (List.mem_map.mpr ⟨G, List.mem_reverse.mpr (hq G hm), rfl⟩))) rfl
    · rcases List.mem_cons.mp hm with e | hm
      · exact absurd e (Nat.ne_of_gt (Nat.lt_succ_self _))
      · rw [← List.map_map] at hm
        exact absurd (hz _ (hq _ hm)) (Nat.lt_irrefl _)
    · rw [← List.map_map] at hm
      exact absurd (hz _ (hq _ hm)) (by omega)
    · have : (Prod.fst ∘ fun a : Addr => (a, listOf #[] 0)) = id := rfl
      rw [this, List.map_id]
      exact (List.reverse_perm as).nodup_iff.mpr hnd
  clear N2
  have hk3 : ns.length = 2 ∨ ns.length = 3 ∨ ns.length = 4 := by omega
  have hpw : (2 : Int) ^ ((ns.length : Nat) : Int).toNat = ((2 ^ ns.length - 1 : Nat) : Int) + 1 := by
    rcases hk3 with e | e | e <;> rw [e] <;> decide
  have hp15 : 2 ^ ns.length - 1 ≤ 15 := by
    rcases hk3 with e | e | e <;> rw [e] <;> decide
  refine for_rg (a0 := 1) (n := 2 ^ ns.length - 1) rfl
    (fun I i s₁ => ∃ (ch mv : Option Value) (oM : Obj) (rest own : List (Addr × Obj)) (h : Heap) (tk : Nat), s₁ = { s with heap := h, toks := tk } ∧ Fr g L' h (mGr G ch) ∧
      News g L' h ((I, itR (1 + (i : Int)) (((2 ^ ns.length - 1 : Nat) : Int) - (i : Int))) :: (G, LCg.lst (as.map Value.ref)) :: (L' + 1 + 1, oM) :: (L' + 1, o2) :: rest) ∧
      (I :: G :: (L' + 1 + 1) :: (L' + 1) :: rest.map Prod.fst : List Addr).Nodup ∧ oM.data = .cell mv ∧ (∀ q ∈ own, q ∈ rest ∧ q.1 ∉ as) ∧
      (∀ (j : Nat) a, as[j]? = some a → ∃ (rs : List Value) (c : Nat), (a, listOf rs.toArray c) ∈ rest ∧ ChsAre own rs (cssV ns ns.length j i))) ?_ ?_ ?_ ?_
  · k_steps
    unfold Stop
    rename_i hr4 F4 N4 hst4
    rw [hpw] at hr4
    refine rg_at hr4 (small_one (by omega) (by omega) (by omega) (by omega)) (by rw [rangeSize_nat]; omega) F4 N4 ?_
    intro I h5 F5 N5 l5
    refine ⟨none, none, o1, as.reverse.map (fun a => (a, listOf #[] 0)), [], h5, _, rfl, F5, ?_, ?_, d1, (by intro q hq; cases hq), ?_⟩
    · rw [show ((2 ^ ns.length - 1 : Nat) : Int) - ((0 : Nat) : Int) = ((2 ^ ns.length - 1 : Nat) : Int) from by omega, show (1 : Int) + ((0 : Nat) : Int) = 1 from rfl]
      exact N5
    · refine List.nodup_cons.mpr ⟨fun hm => ?_, hnd0⟩
      obtain ⟨q, hq, e⟩ := List.mem_map.mp (show I ∈ ((G, LCg.lst (as.map Value.ref)) :: (L' + 1 + 1, o1) :: (L' + 1, o2) :: as.reverse.map (fun a => (a, listOf #[] 0))).map Prod.fst from hm)
      exact absurd e (Nat.ne_of_lt (l5 q hq))
    · intro j a hja
      exact ⟨[], 0, List.mem_map.mpr ⟨a, List.mem_reverse.mpr (List.mem_of_getElem? hja), rfl⟩, trivial⟩
  · rintro I i s₁ ⟨ch, mv, oM, rest, own, h5, tk5, rfl, F5, N5, hnd5, hoM, hown, hgr⟩
    exact (N5 _ (.head _)).1
  · rintro I i s₁ hilt ⟨ch, mv, oM, rest, own, h5, tk5, rfl, F5, N5, hnd5, hoM, hown, hgr⟩ h6 hit6 hsb
    have hnd6 := hnd5
    simp only [List.nodup_cons] at hnd6
    obtain ⟨n1, n2, n3, n4, n5⟩ := hnd6
    have hm := N5 _ (.head _)
    have F6 := F5.change hsb hm.2.1 hm.2.2
    have hIne : ∀ q ∈ (G, LCg.lst (as.map Value.ref)) :: (L' + 1 + 1, oM) :: (L' + 1, o2) :: rest, q.1 ≠ I := fun q hq e => n1 (by rw [← e]; exact List.mem_map_of_mem (f := Prod.fst) hq)
    have N6 : News g L' h6 ((I, itR (1 + ((i + 1 : Nat) : Int)) (((2 ^ ns.length - 1 : Nat) : Int) - ((i + 1 : Nat) : Int))) :: (G, LCg.lst (as.map Value.ref)) :: (L' + 1 + 1, oM) :: (L' + 1, o2) :: rest) := fun q hq => by
      rcases List.mem_cons.mp hq with rfl | hq
      · exact ⟨hit6, hm.2⟩
      · have := N5 q (.tail _ hq)
        exact ⟨(hsb.2 _ (hIne q hq)).trans this.1, this.2⟩
    have hmM := N6 (L' + 1 + 1, oM) (by simp)
    refine wpAny_storeName_cell (c := L' + 1 + 1) (v₀ := mv) rfl rfl rfl ⟨oM, hmM.1, hoM⟩ ?_
    rintro h7 ⟨oM', hoM', hdM'⟩ hsb7
    have F7 := F6.change hsb7 hmM.2.1 hmM.2.2
    have N7 : News g L' h7 ((I, itR (1 + ((i + 1 : Nat) : Int)) (((2 ^ ns.length - 1 : Nat) : Int) - ((i + 1 : Nat) : Int))) :: (G, LCg.lst (as.map Value.ref)) :: (L' + 1 + 1, oM') :: (L' + 1, o2) :: rest) := fun q hq => by
      rcases List.mem_cons.mp hq with rfl | hq
      · have := N6 _ (.head _)
        exact ⟨(hsb7.2 _ (fun e => n1 (e ▸ .tail _ (.head _)))).trans this.1, this.2⟩
      rcases List.mem_cons.mp hq with rfl | hq
      · have := N6 _ (.tail _ (.head _))
        exact ⟨(hsb7.2 _ (fun e => n2 (e ▸ .head _))).trans this.1, this.2⟩
      rcases List.mem_cons.mp hq with rfl | hq
      · exact ⟨hoM', hmM.2⟩
      · have := N6 _ (.tail _ (.tail _ (.tail _ hq)))
        exact ⟨(hsb7.2 _ (fun e => n3 (by rw [← e]; exact List.mem_map_of_mem (f := Prod.fst) hq))).trans this.1, this.2⟩
    clear F5 N5 F6 N6 hsb hsb7 hmM hIne hm hit6 F2 N3
    dsimp only at F7 N7 ⊢
    k_steps
    unfold Stop
    refine asg_range (h₀ := g) (m := mGr G ch) (n := ns.length) (news := (I, itR (1 + ((i + 1 : Nat) : Int)) (((2 ^ ns.length - 1 : Nat) : Int) - ((i + 1 : Nat) : Int))) :: (G, LCg.lst (as.map Value.ref)) :: (L' + 1 + 1, oM') :: (L' + 1, o2) :: rest) (bitM (1 + (i : Int))) (fun a y => ∃ t, y = Value.int (ns.getD a.toNat 0) t) rfl (by rfl) (by with_unfolding_all rfl) (by decide) (by rfl) (by decide) (by rfl) (by rfl) (by rfl) (by rw [sizeLine_eq]; omega) ?_ ?_ ?_ ?_
    · k_steps
      unfold Stop
      exact ⟨_, _, _, _, _, rfl, by assumption, small_one (by omega) (by omega) (by omega) (by omega), by rw [rangeSize_nat]; omega, by assumption, by assumption, _, _, rfl⟩
    · intro C a t s₃ m₃ E' halt hns hmx hk hN
      exact isTrue_plain (wpAny_BinOp (wpAny_BinOp (ldCellK (c := L' + 1 + 1) (by rfl) ⟨oM', hN (L' + 1 + 1, oM') (by simp), hdM'⟩ (ldVarK hns hmx (rshift_int (by omega) (wpAny_Constant_int (and_int (PySem.P.truthy_int ⟨rfl, _, _, rfl, fun b o e => e⟩))))))))
    · intro C a t s₃ m₃ E' halt hns hmx hk hN
      have hL : s₃.heap.IsList l vs.toArray := stays_list hk hlg
      obtain ⟨av, hav⟩ : ∃ av, vs[a]? = some av := ⟨_, List.getElem?_eq_getElem (by omega)⟩
      obtain ⟨x, t', ex, hx⟩ := hi.at a _ hav
      have hx2 : ns.getD ((a : Int)).toNat 0 = x := by simp [List.getD, hx]
      exact Subscript_ (ldCellK (c := L' + 1) (by rfl) ⟨o2, hN (L' + 1, o2) (by simp), d2⟩ (ldVarK hns hmx (tail_any hL.typeIs slot_list_getitem.lookup (wpAny_getItem_list hL (by omega) (by omega) (by rw [Int.toNat_natCast, List.getElem?_toArray]; exact hav) ⟨⟨t', by rw [hx2]; exact ex⟩, _, _, rfl, fun b o e => e⟩) (by with_unfolding_all rfl))))
    · intro Dc h8 tk8 ys nn F8 N8 hne8 hpr
      have hci : IntsAre ys.toList (chosen (1 + (i : Int)) ns ns.length) := paired_ints hpr
      replace F8 : Fr g L' h8 (mGr G (some (.ref Dc))) := mGr_turn G ch (.ref Dc) ▸ F8
      have hc0 := chosen_pos ns.length i ns hlo hlen hilt
      have hc1 := chosen_len_le (1 + (i : Int)) ns ns.length
      have hcl : ys.size = (chosen (1 + (i : Int)) ns ns.length).length := by rw [← hci.length]; simp
      clear F7 N7
      obtain ⟨a, haz⟩ : ∃ a, as[(chosen (1 + (i : Int)) ns ns.length).length - 1]? = some a := ⟨_, List.getElem?_eq_getElem (by omega)⟩
      obtain ⟨rs, cr, hars, hrs⟩ := hgr _ a haz
      have hasr : ∀ b ∈ as, b ∈ rest.map Prod.fst := fun b hb => by
        obtain ⟨j, hj⟩ := List.mem_iff_getElem?.mp hb
        obtain ⟨rs', c', h', _⟩ := hgr j b hj
        exact List.mem_map_of_mem (f := Prod.fst) h'
      have har := hasr a (List.mem_of_getElem? haz)
      have hD : Dc ∉ (I :: G :: (L' + 1 + 1) :: (L' + 1) :: rest.map Prod.fst : List Addr) := fun hm => by
        obtain ⟨q, hq, e⟩ := List.mem_map.mp (show Dc ∈ ((I, itR (1 + ((i + 1 : Nat) : Int)) (((2 ^ ns.length - 1 : Nat) : Int) - ((i + 1 : Nat) : Int))) :: (G, LCg.lst (as.map Value.ref)) :: (L' + 1 + 1, oM') :: (L' + 1, o2) :: rest).map Prod.fst from hm)
        exact hne8 q hq e
      have hrl : rs.length ≤ 15 := by
        rw [hrs.length]
        exact Nat.le_trans (cssV_len ns ns.length _ i) (by omega)
      have hnd8 : (((Dc, listOf ys nn) :: (I, itR (1 + ((i + 1 : Nat) : Int)) (((2 ^ ns.length - 1 : Nat) : Int) - ((i + 1 : Nat) : Int))) :: (G, LCg.lst (as.map Value.ref)) :: (L' + 1 + 1, oM') :: (L' + 1, o2) :: rest).map Prod.fst).Nodup := List.nodup_cons.mpr ⟨hD, hnd5⟩
      have hG : h8.IsList G (as.map Value.ref).toArray := ⟨_, (N8 (G, LCg.lst (as.map Value.ref)) (by simp)).1, rfl, _, rfl⟩
      have hzi : (as.map Value.ref).toArray[(((chosen (1 + (i : Int)) ns ns.length).length : Int) - 1).toNat]? = some (.ref a) := by
        rw [List.getElem?_toArray, show (((chosen (1 + (i : Int)) ns ns.length).length : Int) - 1).toNat = (chosen (1 + (i : Int)) ns ns.length).length - 1 from by omega, List.getElem?_map, haz]
        rfl
      replace N8 : News g L' h8 ((Dc, listOf ys nn) :: (I, itR (1 + ((i + 1 : Nat) : Int)) (((2 ^ ns.length - 1 : Nat) : Int) - ((i + 1 : Nat) : Int))) :: (G, LCg.lst (as.map Value.ref)) :: (L' + 1 + 1, oM') :: (L' + 1, o2) :: rest) := N8
      dsimp only
      k_with_none
      k_steps
      dsimp only
      refine tail_any hG.typeIs slot_list_getitem.lookup (wpAny_getItem_list hG (by omega) (by omega) hzi ?_) (by with_unfolding_all rfl)
      have N9 : News g L' h8 ((a, listOf rs.toArray cr) :: (Dc, listOf ys nn) :: (I, itR (1 + ((i + 1 : Nat) : Int)) (((2 ^ ns.length - 1 : Nat) : Int) - ((i + 1 : Nat) : Int))) :: (G, LCg.lst (as.map Value.ref)) :: (L' + 1 + 1, oM') :: (L' + 1, o2) :: rest) := fun q hq => by
        rcases List.mem_cons.mp hq with rfl | hq
        · exact N8 _ (by simp [hars])
        · exact N8 q hq
      have hmem8 : (a, listOf rs.toArray cr) ∈ (Dc, listOf ys nn) :: (I, itR (1 + ((i + 1 : Nat) : Int)) (((2 ^ ns.length - 1 : Nat) : Int) - ((i + 1 : Nat) : Int))) :: (G, LCg.lst (as.map Value.ref)) :: (L' + 1 + 1, oM') :: (L' + 1, o2) :: rest := .tail _ (.tail _ (.tail _ (.tail _ (.tail _ hars))))
      (try dsimp only)
      k_steps
      refine append_K (its := rs.toArray) (n := cr) F8 N8 (upd_of_mem hnd8 hmem8) ?_ (by rw [List.size_toArray, sizeLine_eq]; omega)
      intro h' F' N'
      (try dsimp only)
      k_steps
      simp only [List.mem_cons, not_or] at n1 n2 n3 hD
      have hI : I ≠ a := fun e => n1.2.2.2 (e ▸ har)
      have hGa : G ≠ a := fun e => n2.2.2 (e ▸ har)
      have hM : L' + 1 + 1 ≠ a := fun e => n3.2 (e ▸ har)
      have hNn : L' + 1 ≠ a := fun e => n4 (e ▸ har)
      have hDa : Dc ≠ a := fun e => hD.2.2.2.2 (e ▸ har)
      rw [List.push_toArray] at N'
      refine ⟨rfl, some (.ref Dc), _, oM', (Dc, listOf ys nn) :: updL a (listOf (rs ++ [Value.ref Dc]).toArray (cr + 1)) rest, (Dc, listOf ys nn) :: own, _, _, rfl, F', fun q hq => N' q ?_, ?_, hdM', ?_, ?_⟩
      · rcases List.mem_cons.mp hq with rfl | hq
        · exact mem_updL (.tail _ (.head _)) hI
        rcases List.mem_cons.mp hq with rfl | hq
        · exact mem_updL (.tail _ (.tail _ (.head _))) hGa
        rcases List.mem_cons.mp hq with rfl | hq
        · exact mem_updL (.tail _ (.tail _ (.tail _ (.head _)))) hM
        rcases List.mem_cons.mp hq with rfl | hq
        · exact mem_updL (.tail _ (.tail _ (.tail _ (.tail _ (.head _))))) hNn
        rcases List.mem_cons.mp hq with rfl | hq
        · exact mem_updL (.head _) hDa
        · exact .tail _ (.tail _ (.tail _ (.tail _ (.tail _ hq))))
      · rw [List.map_cons, updL_fst]
        simp only [List.nodup_cons, List.mem_cons, not_or]
        exact ⟨⟨n1.1, n1.2.1, n1.2.2.1, Ne.symm hD.1, n1.2.2.2⟩, ⟨n2.1, n2.2.1, Ne.symm hD.2.1, n2.2.2⟩, ⟨n3.1, Ne.symm hD.2.2.1, n3.2⟩, ⟨Ne.symm hD.2.2.2.1, n4⟩, hD.2.2.2.2, n5⟩
      · intro q hq
        rcases List.mem_cons.mp hq with rfl | hq
        · exact ⟨.head _, fun hm => hD.2.2.2.2 (hasr _ hm)⟩
        · exact ⟨.tail _ (mem_updL (hown q hq).1 (fun e => (hown q hq).2 (e ▸ List.mem_of_getElem? haz))), (hown q hq).2⟩
      · intro j a' hja
        by_cases hjz : j = (chosen (1 + (i : Int)) ns ns.length).length - 1
        · rw [← hjz] at haz hrs
          obtain rfl : a' = a := Option.some.inj (hja.symm.trans haz)
          refine ⟨rs ++ [.ref Dc], cr + 1, .tail _ (mem_updL_self hars), ?_⟩
          rw [cssV_hit (by omega)]
          exact ChsAre.snoc (.head _) hci (ChsAre.mono (fun q hq => .tail _ hq) hrs)
        · obtain ⟨rs', c', h1', h2'⟩ := hgr j a' hja
          refine ⟨rs', c', .tail _ (mem_updL h1' fun e => hjz ?_), ?_⟩
          · have hjl := (List.getElem?_eq_some_iff.mp hja).1
            exact (List.getElem?_inj hjl hnd).mp (hja.trans (by rw [haz]; exact congrArg some e))
          · rw [cssV_miss (by omega)]
            exact ChsAre.mono (fun q hq => .tail _ hq) h2'
  · rintro I s₁ ⟨ch, mv, oM, rest, own, h5, tk5, rfl, F5, N5, hnd5, hoM, hown, hgr⟩ h6 hx6
    have hm := N5 _ (.head _)
    have F6 : Fr g L' h6 (mGr G ch) := ⟨F5.ns.extBut hx6 hm.2.1.symm, fun b ob e => hx6 b ob (fun q => by rw [q, hm.2.2] at e; cases e) (F5.keep b ob e), F5.above⟩
    simp only [List.nodup_cons] at hnd5
    obtain ⟨n1, n2, n3, n4, n5⟩ := hnd5
    have N6 : News g L' h6 ((G, LCg.lst (as.map Value.ref)) :: rest) := fun q hq => by
      have hq' : q ∈ (G, LCg.lst (as.map Value.ref)) :: (L' + 1 + 1, oM) :: (L' + 1, o2) :: rest := by
        rcases List.mem_cons.mp hq with rfl | hq
        · exact .head _
        · exact .tail _ (.tail _ (.tail _ hq))
      have := N5 q (.tail _ hq')
      exact ⟨hx6 _ _ (fun e => n1 (by rw [← e]; exact List.mem_map_of_mem (f := Prod.fst) hq')) this.1, this.2⟩
    clear F5 N5 F2 N3
    k_with_none
    dsimp only
    k_steps
    refine back_ F6 ⟨(G, LCg.lst (as.map Value.ref)) :: rest, fun q hq => ⟨(N6 q hq).1, (N6 q hq).2.2⟩, fun hb hin => ?_⟩
    have hgl : (gssV ns).length = ns.length := by simp [gssV]
    refine ⟨by rw [hgl]; omega, G, as.map Value.ref, rfl, ⟨_, hin _ (.head _), rfl, _, rfl⟩, by rw [List.length_map, hgl, hal], fun j e css hje hjc => ?_⟩
    rw [List.getElem?_map] at hje
    obtain ⟨a, hja, rfl⟩ := Option.map_eq_some_iff.mp hje
    obtain ⟨rs, c, hars, hrs⟩ := hgr j a hja
    have hjl : j < ns.length := by rw [← hal]; exact (List.getElem?_eq_some_iff.mp hja).1
    obtain rfl : cssV ns ns.length j (2 ^ ns.length - 1) = css := by
      have : (gssV ns)[j]? = some (cssV ns ns.length j (2 ^ ns.length - 1)) := by simp [gssV, hjl]
      rw [this] at hjc; exact Option.some.inj hjc
    refine ⟨cssV_pos hlo hlen hjl, Nat.lt_of_le_of_lt (cssV_len _ _ _ _) (by omega), a, rs, rfl, ⟨_, hin _ (.tail _ hars), rfl, _, rfl⟩, hrs.length, fun i e ch hie hic => ?_⟩
    obtain ⟨ca, cys, cn, rfl, hcm, hci⟩ := hrs.get i e ch hie hic
    obtain ⟨hc1, hc2, hc3⟩ := cssV_mem (List.mem_of_getElem? hic)
    exact ⟨fun x hx => hP x (hc3 x hx), by omega, by omega, ca, cys.toList, rfl, ⟨_, hin _ (.tail _ (hown _ hcm).1), rfl, cn, by simp⟩, hci⟩
end Mine

-- part C16
namespace Mine
open PySem PySem.W PySem.Spec PySem.Calls PyProof.Rows
/-- a contract of _law_due: the first call fills table 131 of code 135 -/
noncomputable def TrD (w : World) (p : Program) (loose : List Str) (mean : ExcName → Option Value) (mg mb : Str → Option Value) (D : Nat) (c : Sem Value) (h : Heap) (Out : Heap → Heap → Value → Prop) : Prop :=
  ∀ (dp un : Nat) (gd : Option (List Code)) (cn : Str) (cs : Scope) (a : Addr) (ccd : Value) (cl : List (Str × Addr)) (outer : List Env) (A₀ : Around) (base h₀ : Heap) (L : Addr) (m : Str → Option Value) (s : Shared) (Q E : Value → Shared → Prop),
    Below A₀ base outer h₀ → Fr h₀ L s.heap m → (hd.heap_39 w.params).In h₀ → Top p loose mean mg mb h₀ → CodeHd h₀ 135 131 → h₀.get? 131 = none → L ≠ 131 → s.heap.get? 131 = some (tabObj #[]) → cs.kind = .function →
    h.StaysIn s.heap → h.get? 131 = none → dp + D < recursionLimit → un + 8 * D < cLine →
    (∀ r h' tk', Fr h₀ L h' m → Heap.ExtBut 131 s.heap h' → Out s.heap h' r → Q r { s with heap := h', toks := tk' }) →
    wpAny (model Challenge.rw_mr0061_01.row.prog w) (ktrTop dp un gd cn cs L a ccd cl outer) c Q E s
theorem enterD {w : World} {p : Program} {loose : List Str} {mean : ExcName → Option Value} {mg mb : Str → Option Value} {D : Nat} {h : Heap} {Out : Heap → Heap → Value → Prop}
    {name qual : Str} {params : Arguments} {body : List Stmt} {scope : Scope} {dV kV doc pm cdv ct oc : Value} {an od : Option Addr} {osl : Array (Option Value)} {f : Addr} {vs : List Value} {binds : List (Str × Value)}
    (ho : (hd.heap_39 w.params).lookup f = some ⟨oc, od, .func (fnOf name qual params body scope dV kV doc pm an cdv ct), osl⟩) (hcd : codeIn (hd.heap_39 w.params) cdv qual = true)
    (hbind : ∀ s : Shared, (hd.heap_39 w.params).In s.heap → BindsTo s (fnOf name qual params body scope dV kV doc pm an cdv ct) ⟨vs, []⟩ binds)
    (hkind : (binds.all fun y => scope.names.lookup y.1 == some .local || scope.names.lookup y.1 == some .cell) = true)
    (hnd : ((cellsFrom 0 scope.names []).map (·.1)).Nodup)
    (hOut : ∀ (s0 g h' : Heap) v, s0.objs.size = g.objs.size → Out g h' v → Out s0 h' v)
    (hstep : ∀ (dp un : Nat) (gd : Option (List Code)) (env : Env) (outer : List Env) (A₀ : Around) (base g : Heap) (L' : Addr) (h₁ : Heap) (s : Shared) (tk : Nat) (cells : List (Addr × Obj)),
      h.StaysIn g → dp + D < recursionLimit → un + 8 * D < cLine → env.scope.kind = .function → g.get? 131 = none → 131 < L' → CodeHd g 135 131 →
      Fr g L' h₁ (bindL (envOfC qual scope L' f cdv).kindOf binds fun _ => none) → News g L' h₁ (cells ++ [(131, tabObj #[])]) → CellsAre (bindC (envOfC qual scope L' f cdv).kindOf binds fun _ => none) (cellsFrom (L' + 1) scope.names []) cells →
      Below { handled := none, depth := dp, frames := some (env :: outer), guards := gd, units := un } base (env :: outer) g → (hd.heap_39 w.params).In g → Top p loose mean mg mb g →
      wpAny (model Challenge.rw_mr0061_01.row.prog w) (({ handled := none, depth := dp, frames := some (env :: outer), guards := gd, units := un } : Around).deeper (envOfC qual scope L' f cdv)) (execs body (envOfC qual scope L' f cdv))
        (fun fl s' => Back g L' s (Out g) (match fl with | .ret v => v | _ => .none) s') (fun _ _ => False) { s with heap := h₁, toks := tk })
    (hco : scope.isCoroutine = false) (hgen : scope.isGenerator = false) (hk : scope.kind = .function) (hD : 0 < D) :
    TrD w p loose mean mg mb D (call (.ref f) vs) h Out := by
  intro dp un gd cn cs a ccd cl outer A₀ base h₀ L m s Q E B F X T hC h0P hLP hP hke hs hhP hdp hun ret
  refine wpAny_call ?_
  have N : News h₀ L s.heap [(131, tabObj #[])] := fun q hq => by
    cases List.mem_singleton.mp hq
    exact ⟨hP, fun e => hLP e.symm, h0P⟩
  obtain ⟨FG, BG, st, lv⟩ := groundX (R := fun _ _ => True) (A := ktrTop dp un gd cn cs L a ccd cl outer) (env := envX cn cs L a ccd cl) B F N rfl rfl hke
  refine codeAny_call_function (by show dp < recursionLimit; omega) ((X.keeps F.keep) _ _ ho) rfl hco hgen rfl (codeRec_of (X.keeps F.keep) hcd) (hbind s (X.keeps F.keep) _ _ _ _ ?_)
  refine wpAny_newFunctionEnv_cells hk (kindsX hkind _) fun env' he s' x => ?_
  subst he
  refine ⟨((T.nolimit).keeps F.keep).keeps x.toInCall.keep, codeAny_func ?_⟩
  obtain ⟨h₁, tk, rfl, _⟩ := x.done
  have hk₁ := x.toInCall.keep
  obtain ⟨cells, NC, Y⟩ := Cl.news (h₀ := s.heap) (Nat.le_refl _) fun n c hm => ⟨x.cell n c (lookup_of_mem_nodup (cellsFrom_names scope.names 0 (s.heap.objs.size + 1) [] [] rfl ▸ hnd) hm), x.above n c hm⟩
  have hsz := hideAll_size ([((131 : Addr), tabObj #[])].map (·.1)) s.heap
  have hgs : h.StaysIn (hideAll s.heap ([((131 : Addr), tabObj #[])].map (·.1))) := fun b o e => hideAll_get _ (hs b o e) fun q => by
    have q' : b = 131 := List.mem_singleton.mp q
    rw [q', hhP] at e; cases e
  refine wpAny_mono (hstep dp un gd (envX cn cs L a ccd cl) outer A₀ base _ s.heap.objs.size h₁ s tk cells hgs hdp hun hke (hideAll_none _ (List.mem_singleton.mpr rfl)) (Heap.lt_size hP) (hC.keeps st)
    ⟨x.toInCall.ns, fun b o e => hk₁ b o (of_hideAll _ e), Nat.le_of_eq hsz⟩ (fun q hq => ?_) Y BG (X.keeps st) (T.keeps st)) (fun fl s' hb => ?_) (fun _ _ x => x.elim)
  · rcases List.mem_append.mp hq with hp | hp
    · refine ⟨(NC q hp).1, (NC q hp).2.1, ?_⟩
      cases e : (hideAll s.heap ([((131 : Addr), tabObj #[])].map (·.1))).get? q.1 with
      | none => rfl
      | some o => have := of_hideAll _ e; rw [(NC q hp).2.2] at this; cases this
    · cases List.mem_singleton.mp hp
      exact ⟨hk₁ _ _ hP, Nat.ne_of_lt (Heap.lt_size hP), hideAll_none _ (List.mem_singleton.mpr rfl)⟩
  · obtain ⟨m', h', tk', rfl, F', o⟩ := hb
    have ext : Heap.ExtBut 131 s.heap h' := fun b ob hb e => F'.keep b ob (hideAll_get _ e fun q => hb (List.mem_singleton.mp q))
    refine ret _ h' tk' ⟨F.ns.extBut ext hLP, fun b ob e => ext b ob (fun q => by rw [q, h0P] at e; cases e) (F.keep b ob e), F.above⟩ ext (hOut _ _ _ _ hsz.symm o)

theorem news_drop2 {h₀ : Heap} {L : Addr} {h : Heap} {e q1 q2 : Addr × Obj} {rest : List (Addr × Obj)} (N : News h₀ L h (q1 :: q2 :: rest)) (hn : h.get? e.1 = some e.2 ∧ e.1 ≠ L ∧ h₀.get? e.1 = none) : News h₀ L h (e :: rest) := fun q hq => by
  rcases List.mem_cons.mp hq with rfl | hq
  · exact hn
  · exact N q (.tail _ (.tail _ hq))
noncomputable abbrev dueQual : Str := Str.ofString "_law_due" ++ ".<locals>." ++ "<lambda>"
/-- the three lambdas of _law_due, read off the text -/
noncomputable def lamDIn (K : Frag) (k : Nat) : Option (Arguments × Expr × Scope × Pos) := match K.lookup 136 with
  | some ⟨_, _, .func fd, _⟩ => match fd.body with
    | .stmts (.Return (some (.List ts _)) _ :: _) => match ts[k]? with
      | some (.Tuple (_ :: _ :: .Call _ (_ :: .Lambda a b c d :: _) _ _ :: _) _ _) => some (a, b, c, d)
      | _ => none
    | _ => none
  | _ => none
section
local macro_rules | `(tactic| walk_at "eval Name") => `(tactic| k_extra "m free")
variable {w : World} {p : Program} {loose : List Str} {mean : ExcName → Option Value} {mg mb : Str → Option Value} {h : Heap} {l : Addr} {vs : List Value} {ns : List Int}
set_option maxHeartbeats 8000000 in
theorem lamD1 {pa : Arguments} {bo : Expr} {sc : Scope} {po : Pos} {f c' : Addr} {pm ctv : Value} {nm : Str}
    (hlam : lamDIn (hd.heap_39 w.params) 0 = some (pa, bo, sc, po)) (ho : h.get? f = some (kla_obj nm dueQual pa bo sc [] pm c' ctv)) (hcd : h.CodeRec (.ref c') dueQual) : FunB w p loose mean mg mb 1 h (.ref f) (fun x y => decide (x ≥ y)) := by
  cases hlam
  intro x y t u
  refine' enterL (binds := [(Str.ofString "count", .int x t), (Str.ofString "size", .int y u)]) ho hcd ?k9 ?kB ?kS ?c2 ?c3 ?c4 ?c5 ?cD
  case k9 => exact rfl
  case kB => exact locs rfl
  case c2 => exact rfl
  case c3 => exact rfl
  case c4 => exact rfl
  case c5 => decide
  case cD => exact Nat.succ_pos _
  intro dp un gd env outer A₀ base g L' h₁ s hs hdp hun hke F N Bl X T
  k_fold
  k_with_none
  k_steps
  exact back_ (by k_asm) rfl
set_option maxHeartbeats 8000000 in
theorem lamD3 {pa : Arguments} {bo : Expr} {sc : Scope} {po : Pos} {f c' : Addr} {pm ctv : Value} {nm : Str}
    (hlam : lamDIn (hd.heap_39 w.params) 2 = some (pa, bo, sc, po)) (ho : h.get? f = some (kla_obj nm dueQual pa bo sc [] pm c' ctv)) (hcd : h.CodeRec (.ref c') dueQual) : FunB w p loose mean mg mb 1 h (.ref f) (fun x y => decide (Builtin.bitAnd x y = y)) := by
  cases hlam
  intro x y t u
  refine' enterL (binds := [(Str.ofString "count", .int x t), (Str.ofString "size", .int y u)]) ho hcd ?k9 ?kB ?kS ?c2 ?c3 ?c4 ?c5 ?cD
  case k9 => exact rfl
  case kB => exact locs rfl
  case c2 => exact rfl
  case c3 => exact rfl
  case c4 => exact rfl
  case c5 => decide
  case cD => exact Nat.succ_pos _
  intro dp un gd env outer A₀ base g L' h₁ s hs hdp hun hke F N Bl X T
  k_fold
  k_with_none
  k_steps
  exact back_ (by k_asm) (by first | rfl | (congr 1; by_cases hq : Builtin.bitAnd x y = y <;> simp [hq]))
set_option maxHeartbeats 8000000 in
theorem lamD2 {pa : Arguments} {bo : Expr} {sc : Scope} {po : Pos} {f c' cN : Addr} {oN : Obj} {pm ctv : Value} {nm : Str}
    (hlam : lamDIn (hd.heap_39 w.params) 1 = some (pa, bo, sc, po)) (ho : h.get? f = some (kla_obj nm dueQual pa bo sc [(Str.ofString "numbers", cN)] pm c' ctv)) (hcd : h.CodeRec (.ref c') dueQual)
    (hcN : h.get? cN = some oN) (hdN : oN.data = .cell (some (.ref l))) (hl : h.IsList l vs.toArray) (hlen : vs.length ≤ 4) : FunB w p loose mean mg mb 1 h (.ref f) (fun x y => decide ((vs.length : Int) - x < y)) := by
  cases hlam
  intro x y t u
  refine' enterL (binds := [(Str.ofString "count", .int x t), (Str.ofString "size", .int y u)]) ho hcd ?k9 ?kB ?kS ?c2 ?c3 ?c4 ?c5 ?cD
  case k9 => exact rfl
  case kB => exact locs rfl
  case c2 => exact rfl
  case c3 => exact rfl
  case c4 => exact rfl
  case c5 => decide
  case cD => exact Nat.succ_pos _
  intro dp un gd env outer A₀ base g L' h₁ s hs hdp hun hke F N Bl X T
  k_fold
  have hlg : g.IsList l vs.toArray := stays_list hs hl
  have hNg : g.get? cN = some oN := hs _ _ hcN
  k_with_none
  k_with "m free" =>
    (with_reducible show wpAny _ _ (eval (Expr.Name (Str.ofString "numbers") _) _) _ _ _); k_dflt (refine nameX_FB (c := cN) (o := oN) (by k_asm) hNg rfl hdN ?_)
  k_steps
  refine call_len_list (stays_list F.keep hlg) (by rw [List.size_toArray]; omega) ?_
  (try dsimp only)
  k_steps
  exact back_ (by k_asm) (by first | rfl | simp)
end

variable {w : World} {p : Program} {loose : List Str} {mean : ExcName → Option Value} {mg mb : Str → Option Value} {h : Heap} {l : Addr} {vs : List Value} {ns : List Int}
noncomputable abbrev tup3 (a b c : Value) : Obj := { cls := .type "tuple", data := .seq #[a, b, c] }
noncomputable def Due1 (own : List (Addr × Obj)) (j b : Addr) (ds : List Int) (v : Value) : Prop := ∃ (T e : Addr) (vs : List Value) (c : Nat), v = .ref T ∧ (T, tup3 (.ref j) (.ref b) (.ref e)) ∈ own ∧ (e, listOf vs.toArray c) ∈ own ∧ IntsAre vs ds
/-- what _law_due hands back -/
noncomputable def DueOut (ns : List Int) (h0 h'' : Heap) (r : Value) : Prop := ∃ (own : List (Addr × Obj)) (R : Addr) (v1 v2 v3 v4 v5 : Value), r = .ref R ∧ NewOwn h0 h'' own ∧ (R, listOf #[v1, v2, v3, v4, v5] 0) ∈ own ∧
  Due1 own 65 51 ((List.range ns.length).map (dueV (fun x y => decide (x ≥ y)) ns)) v1 ∧
  Due1 own 51 65 ((List.range ns.length).map (dueV (fun x y => decide ((ns.length : Int) - x < y)) ns)) v2 ∧
  Due1 own 79 51 ((List.range ns.length).map (dueV (fun x y => decide (Builtin.bitAnd x y = y)) ns)) v3 ∧
  Due1 own 86 93 (sortV ns).reverse v4 ∧
  Due1 own 93 72 ((List.range ns.length).map (spanV ns)) v5
set_option maxHeartbeats 8000000 in
theorem due_spec (hl : h.IsList l vs.toArray) (hi : IntsAre vs ns) (hlo : 2 ≤ ns.length) (hlen : ns.length ≤ 4) (hsm : ∀ x ∈ ns, -128 ≤ x ∧ x ≤ 127) :
    TrD w p loose mean mg mb 3 (call (.ref 136) [.ref l]) h (fun h0 h'' r => DueOut ns h0 h'' r ∧ GrownAt 131 h'') := by
  refine' enterD (binds := [(Str.ofString "numbers", .ref l)]) ?k6 ?k7 ?k9 ?kB ?kD ?kO ?kS ?c2 ?c3 ?c4 ?cD
  case k6 => k_is
  case k7 => k_is
  case k9 => exact fun s _ => BindsTo.of_eq rfl
  case kB => exact rfl
  case kD => decide +kernel
  case kO => exact fun s0 g h' v e ⟨⟨own, R, v1, v2, v3, v4, v5, a1, a2, a3⟩, a4⟩ => ⟨⟨own, R, v1, v2, v3, v4, v5, a1, fun q hq => ⟨(a2 q hq).1, e ▸ (a2 q hq).2⟩, a3⟩, a4⟩
  case c2 => exact rfl
  case c3 => exact rfl
  case c4 => exact rfl
  case cD => exact Nat.succ_pos _
  intro dp un gd env outer A₀ base g L' h₁ s tk cells hs hdp hun hke hgP hLP hC F N Y Bl X T
  k_fold
  k_cells Y
  (try simp only [List.cons_append, List.nil_append] at N)
  rename_i o1 d1
  replace d1 : o1.data = .cell (some (.ref l)) := d1
  replace F : Fr g L' h₁ (fun _ => none) := F
  have hlg : g.IsList l vs.toArray := stays_list hs hl
  have hvl : vs.length = ns.length := hi.length
  have hLP' : @LT.lt Nat _ 131 L' := hLP
  k_with_none
  k_with "m call" => refine stop_here ?_
  k_steps
  unfold Stop
  rename_i f1 c1 oc1 vc1 tc1 ct1 h2 tk2 F2 N2 dc1 dd1 lc1 lf1
  have hh2 : h.StaysIn h2 := stays_trans hs F2.keep
  have hf1 : FunB w p loose mean mg mb 1 h2 (.ref f1) (fun x y => decide (x ≥ y)) := lamD1 rfl (N2 _ (.head _)).1 ⟨c1, oc1, vc1, tc1, rfl, (N2 _ (.tail _ (.head _))).1, dc1, dd1⟩
  k_dflt (refine tr_use (bits_spec (h := h2) (D := 1) (f := f1) ⟨_, _, _, _, (N2 _ (.head _)).1⟩ hf1 (stays_list F2.keep hlg) hi hlen hsm) (by k_asm) (by k_asm) (by k_asm) (by k_asm) (by k_asm) (by first | exact rfl | assumption) (by exact stays_refl _) (by ktr_room) (by ktr_units) ?_)
  intro r3 h3 tk3 F3 N3 k3 o3
  obtain ⟨own3, hO3, hR3⟩ := o3
  obtain ⟨e1, ev1, ec1, rfl, hi1, hm1⟩ := rl_own g hR3
  have hn3 := newOwn_news F2 hO3 _ hm1
  have le1 : @LT.lt Nat _ f1 e1 := Nat.lt_of_lt_of_le (Heap.lt_size (N2 _ (.head _)).1) (hO3 _ hm1).2
  have lc1' : @LT.lt Nat _ (L' + 1) c1 ∧ @LT.lt Nat _ 131 c1 := lc1
  have lf1' : @LT.lt Nat _ c1 f1 := lf1
  have lk1 : L' + 1 < e1 ∧ 131 < e1 := ⟨Nat.lt_trans lc1'.1 (Nat.lt_trans lf1' le1), Nat.lt_trans lc1'.2 (Nat.lt_trans lf1' le1)⟩
  have N4 := news_drop2 N3 hn3
  clear N3 N2 F2 N F hR3 hO3 hm1 hn3 hf1 hh2 k3 dc1 dd1
  k_steps
  unfold Stop
  rename_i T1 h4 F4 N4 lT1 f2 c2 oc2 vc2 tc2 ct2 h5 tk5 F5 N5 dc2 dd2 lc2 lf2
  have hh5 : h.StaysIn h5 := stays_trans hs F5.keep
  have hf2 : FunB w p loose mean mg mb 1 h5 (.ref f2) (fun x y => decide ((vs.length : Int) - x < y)) := lamD2 rfl (N5 _ (.head _)).1 ⟨c2, oc2, vc2, tc2, rfl, (N5 _ (.tail _ (.head _))).1, dc2, dd2⟩ (N5 (L' + 1, o1) (by simp)).1 d1 (stays_list F5.keep hlg) (by omega)
  k_dflt (refine tr_use (bits_spec (h := h5) (D := 1) (f := f2) ⟨_, _, _, _, (N5 _ (.head _)).1⟩ hf2 (stays_list F5.keep hlg) hi hlen hsm) (by k_asm) (by k_asm) (by k_asm) (by k_asm) (by k_asm) (by first | exact rfl | assumption) (by exact stays_refl _) (by ktr_room) (by ktr_units) ?_)
  intro r3 h6 tk6 F6 N6 k6 o6
  obtain ⟨own6, hO6, hR6⟩ := o6
  obtain ⟨e2, ev2, ec2, rfl, hi2, hm2⟩ := rl_own g hR6
  have hn6 := newOwn_news F5 hO6 _ hm2
  have le2 : @LT.lt Nat _ f2 e2 := Nat.lt_of_lt_of_le (Heap.lt_size (N5 _ (.head _)).1) (hO6 _ hm2).2
  have lc2' : @LT.lt Nat _ T1 c2 ∧ @LT.lt Nat _ e1 c2 ∧ @LT.lt Nat _ (L' + 1) c2 ∧ @LT.lt Nat _ 131 c2 := lc2
  have lf2' : @LT.lt Nat _ c2 f2 := lf2
  have lx2 : @LT.lt Nat _ c2 e2 := Nat.lt_trans lf2' le2
  have lk2 : T1 < e2 ∧ e1 < e2 ∧ L' + 1 < e2 ∧ 131 < e2 := ⟨Nat.lt_trans lc2'.1 lx2, Nat.lt_trans lc2'.2.1 lx2, Nat.lt_trans lc2'.2.2.1 lx2, Nat.lt_trans lc2'.2.2.2 lx2⟩
  have N7 := news_drop2 N6 hn6
  clear N6 N5 F5 N4 F4 hR6 hO6 hm2 hn6 hf2 hh5 k6 dc2 dd2
  k_steps
  unfold Stop
  rename_i T2 h7 F7 N7 lT2 f3 c3 oc3 vc3 tc3 ct3 h8 tk8 F8 N8 dc3 dd3 lc3 lf3
  have hh8 : h.StaysIn h8 := stays_trans hs F8.keep
  have hf3 : FunB w p loose mean mg mb 1 h8 (.ref f3) (fun x y => decide (Builtin.bitAnd x y = y)) := lamD3 rfl (N8 _ (.head _)).1 ⟨c3, oc3, vc3, tc3, rfl, (N8 _ (.tail _ (.head _))).1, dc3, dd3⟩
  k_dflt (refine tr_use (bits_spec (h := h8) (D := 1) (f := f3) ⟨_, _, _, _, (N8 _ (.head _)).1⟩ hf3 (stays_list F8.keep hlg) hi hlen hsm) (by k_asm) (by k_asm) (by k_asm) (by k_asm) (by k_asm) (by first | exact rfl | assumption) (by exact stays_refl _) (by ktr_room) (by ktr_units) ?_)
  intro r3 h9 tk9 F9 N9 k9 o9
  obtain ⟨own9, hO9, hR9⟩ := o9
  obtain ⟨e3, ev3, ec3, rfl, hi3, hm3⟩ := rl_own g hR9
  have hn9 := newOwn_news F8 hO9 _ hm3
  have le3 : @LT.lt Nat _ f3 e3 := Nat.lt_of_lt_of_le (Heap.lt_size (N8 _ (.head _)).1) (hO9 _ hm3).2
  have lc3' : @LT.lt Nat _ T2 c3 ∧ @LT.lt Nat _ e2 c3 ∧ @LT.lt Nat _ T1 c3 ∧ @LT.lt Nat _ e1 c3 ∧ @LT.lt Nat _ (L' + 1) c3 ∧ @LT.lt Nat _ 131 c3 := lc3
  have lf3' : @LT.lt Nat _ c3 f3 := lf3
  have lx3 : @LT.lt Nat _ c3 e3 := Nat.lt_trans lf3' le3
  have lk3 : T2 < e3 ∧ e2 < e3 ∧ T1 < e3 ∧ e1 < e3 ∧ L' + 1 < e3 ∧ 131 < e3 := ⟨Nat.lt_trans lc3'.1 lx3, Nat.lt_trans lc3'.2.1 lx3, Nat.lt_trans lc3'.2.2.1 lx3, Nat.lt_trans lc3'.2.2.2.1 lx3, Nat.lt_trans lc3'.2.2.2.2.1 lx3, Nat.lt_trans lc3'.2.2.2.2.2 lx3⟩
  have N10 := news_drop2 N9 hn9
  clear N9 N8 F8 N7 F7 hR9 hO9 hm3 hn9 hf3 hh8 k9 dc3 dd3
  k_steps
  unfold Stop
  rename_i T3 h10 lT3 D4 v4 n4 c4 h11 i4 e4 p4 o4 b4 p04 lD4 s4 E4 w4 h12 hI4 hC4 lE4 T4 h13 F13 N13 lT4
  k_dflt (refine tr_use (spans_spec (h := h13) (stays_list F13.keep hlg) hi hlen) (by k_asm) (by k_asm) (by k_asm) (by k_asm) (by k_asm) (by first | exact rfl | assumption) (by exact stays_refl _) (by ktr_room) (by ktr_units) ?_)
  intro r14 h14 tk14 F14 N14 k14 o14
  obtain ⟨own14, hO14, hR14⟩ := o14
  obtain ⟨e5, ev5, ec5, rfl, hi5, hm5⟩ := rl_own g hR14
  have hn14 := newOwn_news F13 hO14 _ hm5
  have le5 : @LT.lt Nat _ T4 e5 := Nat.lt_of_lt_of_le (Heap.lt_size (N13 _ (.head _)).1) (hO14 _ hm5).2
  have N15 : News g L' h14 ((e5, listOf ev5.toArray ec5) :: _) := fun q hq => by
    rcases List.mem_cons.mp hq with rfl | hq
    · exact hn14
    · exact N14 q hq
  clear N14 N13 F13 hR14 hO14 hm5 hn14 k14
  k_steps
  rename_i T5 h16 lT5 R h17 F17 N17 lR
  have q1 : @LT.lt Nat _ (L' + 1) e1 := lk1.1
  have q2 : @LT.lt Nat _ (L' + 1) e2 := lk2.2.2.1
  have q3 : @LT.lt Nat _ (L' + 1) e3 := lk3.2.2.2.2.1
  have q4 : @LT.lt Nat _ e1 T1 := lT1.1
  have q5 : @LT.lt Nat _ e2 T2 := lT2.1
  have q6 : @LT.lt Nat _ e3 T3 := lT3.1
  have q7 : @LT.lt Nat _ (L' + 1) E4 := lE4.2.2.2.2.2.2.2.1
  have q8 : @LT.lt Nat _ E4 T4 := lT4.1
  have q9 : @LT.lt Nat _ e5 T5 := lT5.1
  have q10 : @LT.lt Nat _ T5 R := lR.1
  have hgL : @LE.le Nat _ g.objs.size L' := F17.above
  have hs4 : n4 = sortV ns := sorted_eq (p4.trans (sortV_perm _).symm) o4 (sortV_sorted _)
  rw [hs4] at hI4
  rw [hvl] at hi2
  refine back_ F17 ⟨⟨[(R, listOf #[.ref T1, .ref T2, .ref T3, .ref T4, .ref T5] 0), (T5, tup3 (.ref 93) (.ref 72) (.ref e5)), (e5, listOf ev5.toArray ec5), (T4, tup3 (.ref 86) (.ref 93) (.ref E4)), (E4, listOf w4.toArray 0), (T3, tup3 (.ref 79) (.ref 51) (.ref e3)), (e3, listOf ev3.toArray ec3), (T2, tup3 (.ref 51) (.ref 65) (.ref e2)), (e2, listOf ev2.toArray ec2), (T1, tup3 (.ref 65) (.ref 51) (.ref e1)), (e1, listOf ev1.toArray ec1)],
    R, .ref T1, .ref T2, .ref T3, .ref T4, .ref T5, rfl, fun q hq => ⟨(N17 q ?_).1, ?_⟩, .head _, ⟨T1, e1, ev1, ec1, rfl, by simp, by simp, hi1⟩, ⟨T2, e2, ev2, ec2, rfl, by simp, by simp, hi2⟩, ⟨T3, e3, ev3, ec3, rfl, by simp, by simp, hi3⟩, ⟨T4, E4, w4, 0, rfl, by simp, by simp, hI4⟩, ⟨T5, e5, ev5, ec5, rfl, by simp, by simp, hi5⟩⟩, GrownAt.of N17 (by k_mem)⟩
  · simp only [List.mem_cons, List.not_mem_nil, or_false] at hq ⊢
    rcases hq with h | h | h | h | h | h | h | h | h | h | h <;> simp [h]
  · simp only [List.mem_cons, List.not_mem_nil, or_false] at hq
    rcases hq with rfl | rfl | rfl | rfl | rfl | rfl | rfl | rfl | rfl | rfl | rfl <;> dsimp only <;> exact (show @LE.le Nat _ g.objs.size _ from by omega)
end Mine

-- part C17
namespace Mine
open PySem PySem.W PySem.Spec PySem.Calls PyProof.Rows
section
variable {prog : Program} {w : World} {A : Around} {s : Shared} {env : Env}
/-- a for with any target over a list's iterator; a turn may hand back -/
theorem for_itT {Q : Flow → Shared → Prop} {target : Expr} {pos : Pos} {iterE : Expr} {body : List Stmt} {I l : Addr} {items : Array Value} {i₀ : Nat}
    (hh : A.handled = none) (Inv : Nat → Shared → Prop)
    (heval : wpAny (model prog w) A (eval iterE env) (fun xv s₁ => wpAny (model prog w) A (pyIter xv) (fun it s₂ => it = .ref I ∧ Inv i₀ s₂) (fun _ _ => False) s₁) (fun _ _ => False) s)
    (h0 : i₀ ≤ items.size)
    (hit : ∀ i s, Inv i s → s.heap.IsListIter I l i ∧ s.heap.IsList l items)
    (step : ∀ i s v, i < items.size → Inv i s → items[i]? = some v → ∀ h', h'.IsListIter I l (i + 1) → Heap.SameBut I s.heap h' →
      wpAny (model prog w) A (assign target env v) (fun _ s₂ => wpAny (model prog w) A (execs body env) (Nx (Inv (i + 1))) (fun _ _ => False) s₂) (fun _ _ => False) { s with heap := h' })
    (done : ∀ s, Inv items.size s → ∀ h', Heap.ExtBut I s.heap h' → Q .next { s with heap := h' })
    (hs : ∀ x, foldedSetIterable iterE env x = pure x := by intro _; rfl) :
    wpAny (model prog w) A (exec (.For target iterE body [] pos) env) Q (fun _ _ => False) s := by
  refine wpAny_For (wpAny_mono heval (fun xv s₁ h₁ => wpAny_mono h₁ (fun it s₂ h₂ => ?_) fun _ _ e => e) fun _ _ e => e) hs
  obtain ⟨rfl, hI⟩ := h₂
  refine codeAny_forLoop_any (fun n s => ∃ i, i ≤ items.size ∧ n = items.size - i ∧ Inv i s) (fun n s hs => ?_) (items.size - i₀) ⟨i₀, h0, rfl, hI⟩
  obtain ⟨i, hi, rfl, hI⟩ := hs
  obtain ⟨a1, a2⟩ := hit i s hI
  rcases Nat.lt_or_ge i items.size with hlt | hge
  · refine wpAny_pyNext_list_item a1 a2 (Array.getElem?_eq_getElem hlt) fun h' hit' hsb => ?_
    refine letGo_listiter (s' := { s with heap := h' }) hit' ?_
    refine wpAny_mono (step i s _ hlt hI (Array.getElem?_eq_getElem hlt) h' hit' hsb) (fun _ s₂ h₂ => wpAny_mono h₂ (fun f s₃ h₃ => ?_) fun _ _ e => e.elim) fun _ _ e => e.elim
    obtain ⟨rfl, h₃⟩ := h₃
    exact ⟨items.size - (i + 1), by omega, i + 1, hlt, rfl, h₃⟩
  · obtain rfl : i = items.size := by omega
    exact wpAny_pyNext_list_end hh a1 a2 (Array.getElem?_eq_none (Nat.le_refl _)) fun h' hx => wpAny_execs_nil (done s hI h' hx)
end
section
variable {w : World} {p : Program} {loose : List Str} {mean : ExcName → Option Value} {mg mb : Str → Option Value} {D : Nat} {c : Sem Value} {h : Heap} {Out : Heap → Heap → Value → Prop}
    {dp un : Nat} {gd : Option (List Code)} {cn : Str} {cs : Scope} {a : Addr} {ccd : Value} {cl : List (Str × Addr)} {outer : List Env} {A₀ : Around} {base h₀ : Heap} {L : Addr} {m : Str → Option Value} {rest : List (Addr × Obj)} {s : Shared} {Q E : Value → Shared → Prop}
theorem news_ext {t : Addr} {ot ot' : Obj} {h h' : Heap} (N : News h₀ L h ((t, ot) :: rest)) (hr : ∀ q ∈ rest, q.1 ≠ t) (x : Heap.ExtBut t h h') (ho : h'.get? t = some ot') : News h₀ L h' ((t, ot') :: rest) := fun q hq => by
  rcases List.mem_cons.mp hq with rfl | hq
  · exact ⟨ho, (N _ (.head _)).2⟩
  · have := N q (.tail _ hq)
    exact ⟨x _ _ (hr q hq) this.1, this.2⟩
theorem trT_use {ps : Array Value} (C : TrT w p loose mean mg mb D c h Out) (B : Below A₀ base outer h₀) (F : Fr h₀ L s.heap m) (X : (hd.heap_39 w.params).In h₀) (N : News h₀ L s.heap ((107, tabObj ps) :: rest)) (hr : ∀ q ∈ rest, q.1 ≠ 107) (T : Top p loose mean mg mb h₀) (hC : CodeHd h₀ 109 107) (hTab : TabOk s.heap ps)
    (hk : cs.kind = .function) (hs : h.StaysIn s.heap) (hh : h.get? 107 = none) (hd : dp + D < recursionLimit) (hu : un + 8 * D < cLine)
    (ret : ∀ r h' tk' ps', Fr h₀ L h' m → News h₀ L h' ((107, tabObj ps') :: rest) → TabOk h' ps' → Heap.ExtBut 107 s.heap h' → Out s.heap h' r → Q r { s with heap := h', toks := tk' }) :
    wpAny (model Challenge.rw_mr0061_01.row.prog w) (ktrTop dp un gd cn cs L a ccd cl outer) c Q E s :=
  C _ _ _ _ _ _ _ _ _ _ _ _ _ _ _ _ _ _ B F X T hC (N _ (.head _)).2.2 (fun e => (N _ (.head _)).2.1 e.symm) (N _ (.head _)).1 hTab hk hs hh hd hu fun r h' tk' ps' F' x ho hT o => ret r h' tk' ps' F' (news_ext N hr x ho) hT x o
theorem trD_use (C : TrD w p loose mean mg mb D c h Out) (B : Below A₀ base outer h₀) (F : Fr h₀ L s.heap m) (X : (hd.heap_39 w.params).In h₀) (N : News h₀ L s.heap ((131, tabObj #[]) :: rest)) (hr : ∀ q ∈ rest, q.1 ≠ 131) (T : Top p loose mean mg mb h₀) (hC : CodeHd h₀ 135 131)
    (hk : cs.kind = .function) (hs : h.StaysIn s.heap) (hh : h.get? 131 = none) (hd : dp + D < recursionLimit) (hu : un + 8 * D < cLine)
    (ret : ∀ r h' tk', Fr h₀ L h' m → News h₀ L h' rest → Heap.ExtBut 131 s.heap h' → Out s.heap h' r → Q r { s with heap := h', toks := tk' }) :
    wpAny (model Challenge.rw_mr0061_01.row.prog w) (ktrTop dp un gd cn cs L a ccd cl outer) c Q E s :=
  C _ _ _ _ _ _ _ _ _ _ _ _ _ _ _ _ _ B F X T hC (N _ (.head _)).2.2 (fun e => (N _ (.head _)).2.1 e.symm) (N _ (.head _)).1 hk hs hh hd hu fun r h' tk' F' x o => ret r h' tk' F' (fun q hq => ⟨x _ _ (hr q hq) (N q (.tail _ hq)).1, (N q (.tail _ hq)).2⟩) x o
theorem tabOk_stays {h h' : Heap} {ps : Array Value} (x : TabOk h ps) (k : h.StaysIn h') : TabOk h' ps := by
  rcases x with e | ⟨c, oc, vs, t, e, h1, r⟩
  · exact .inl e
  · exact .inr ⟨c, oc, vs, t, e, k _ _ h1, r⟩
theorem tabOk_ext {h h' : Heap} {ps : Array Value} (x : TabOk h ps) (hh : h.get? 131 = some (tabObj #[])) (k : Heap.ExtBut 131 h h') : TabOk h' ps := by
  rcases x with e | ⟨c, oc, vs, t, e, h1, h2, h3, h4⟩
  · exact .inl e
  · refine .inr ⟨c, oc, vs, t, e, k _ _ (fun q => ?_) h1, h2, h3, h4⟩
    subst q
    rw [hh] at h1
    cases h1
    cases h2
    simp at h3
end
/-- a contract of _law_agree: both tables empty ahead -/
noncomputable def TrA (w : World) (p : Program) (loose : List Str) (mean : ExcName → Option Value) (mg mb : Str → Option Value) (D : Nat) (c : Sem Value) (h : Heap) (Out : Heap → Value → Prop) : Prop :=
  ∀ (dp un : Nat) (gd : Option (List Code)) (cn : Str) (cs : Scope) (a : Addr) (ccd : Value) (cl : List (Str × Addr)) (outer : List Env) (A₀ : Around) (base h₀ : Heap) (L : Addr) (m : Str → Option Value) (s : Shared) (Q E : Value → Shared → Prop),
    Below A₀ base outer h₀ → Fr h₀ L s.heap m → (hd.heap_39 w.params).In h₀ → Top p loose mean mg mb h₀ → CodeHd h₀ 109 107 → CodeHd h₀ 135 131 → News h₀ L s.heap [(107, tabObj #[]), (131, tabObj #[])] → cs.kind = .function →
    h.StaysIn s.heap → h.get? 107 = none → h.get? 131 = none → dp + D < recursionLimit → un + 8 * D < cLine →
    (∀ r h' tk', Fr h₀ L h' m → Out h' r → Q r { s with heap := h', toks := tk' }) →
    wpAny (model Challenge.rw_mr0061_01.row.prog w) (ktrTop dp un gd cn cs L a ccd cl outer) c Q E s
theorem enterA {w : World} {p : Program} {loose : List Str} {mean : ExcName → Option Value} {mg mb : Str → Option Value} {D : Nat} {h : Heap} {Out : Heap → Value → Prop}
    {name qual : Str} {params : Arguments} {body : List Stmt} {scope : Scope} {dV kV doc pm cdv ct oc : Value} {an od : Option Addr} {osl : Array (Option Value)} {f : Addr} {vs : List Value} {binds : List (Str × Value)}
    (ho : (hd.heap_39 w.params).lookup f = some ⟨oc, od, .func (fnOf name qual params body scope dV kV doc pm an cdv ct), osl⟩) (hcd : codeIn (hd.heap_39 w.params) cdv qual = true)
    (hbind : ∀ s : Shared, (hd.heap_39 w.params).In s.heap → BindsTo s (fnOf name qual params body scope dV kV doc pm an cdv ct) ⟨vs, []⟩ binds) (hloc : ∀ y ∈ binds, scope.names.lookup y.1 = some .local)
    (hstep : ∀ (dp un : Nat) (gd : Option (List Code)) (env : Env) (outer : List Env) (A₀ : Around) (base g : Heap) (L' : Addr) (h₁ : Heap) (s : Shared),
      h.StaysIn g → dp + D < recursionLimit → un + 8 * D < cLine → env.scope.kind = .function → 131 < L' → CodeHd g 109 107 → CodeHd g 135 131 →
      Fr g L' h₁ (fun y => binds.reverse.lookup y) → News g L' h₁ [(107, tabObj #[]), (131, tabObj #[])] → Below { handled := none, depth := dp, frames := some (env :: outer), guards := gd, units := un } base (env :: outer) g → (hd.heap_39 w.params).In g → Top p loose mean mg mb g →
      wpAny (model Challenge.rw_mr0061_01.row.prog w) (({ handled := none, depth := dp, frames := some (env :: outer), guards := gd, units := un } : Around).deeper (envOf qual scope L' f cdv)) (execs body (envOf qual scope L' f cdv))
        (fun fl s' => Back g L' s Out (match fl with | .ret v => v | _ => .none) s') (fun _ _ => False) { s with heap := h₁, toks := s.toks + binds.length })
    (hco : scope.isCoroutine = false) (hgen : scope.isGenerator = false) (hk : scope.kind = .function) (hcell : ∀ x ∈ scope.names, x.2 ≠ .cell) (hD : 0 < D) :
    TrA w p loose mean mg mb D (call (.ref f) vs) h Out := by
  intro dp un gd cn cs a ccd cl outer A₀ base h₀ L m s Q E B F X T hC1 hC2 N hke hs hh1 hh2 hdp hun ret
  refine wpAny_call ?_
  have p1 := N (107, tabObj #[]) (.head _)
  have p2 := N (131, tabObj #[]) (.tail _ (.head _))
  obtain ⟨FG, BG, st, lv⟩ := groundX (R := fun _ _ => True) (A := ktrTop dp un gd cn cs L a ccd cl outer) (env := envX cn cs L a ccd cl) B F N rfl rfl hke
  refine codeAny_call_def (fd := fnOf name qual params body scope dV kV doc pm an cdv ct) (body := body) (binds := binds) (by show dp < recursionLimit; omega) ((X.keeps F.keep) _ _ ho) rfl ((T.nolimit).keeps F.keep) (codeRec_of (X.keeps F.keep) hcd) rfl (hbind s (X.keeps F.keep)) hcell hloc (fun h₁ hns hk₁ => ?_) hco hgen hk
  have hsz := hideAll_size ([((107 : Addr), tabObj #[]), (131, tabObj #[])].map (·.1)) s.heap
  have hgs : h.StaysIn (hideAll s.heap ([((107 : Addr), tabObj #[]), (131, tabObj #[])].map (·.1))) := fun b o e => hideAll_get _ (hs b o e) fun q => by
    rcases List.mem_cons.mp q with q | q
    · rw [show b = 107 from q, hh1] at e; cases e
    · rw [show b = 131 from List.mem_singleton.mp q, hh2] at e; cases e
  refine wpAny_mono (hstep dp un gd (envX cn cs L a ccd cl) outer A₀ base _ s.heap.objs.size h₁ s hgs hdp hun hke (Heap.lt_size p2.1) (hC1.keeps st) (hC2.keeps st)
    ⟨hns, fun b o e => hk₁ b o (of_hideAll _ e), Nat.le_of_eq hsz⟩ (fun q hq => ?_) BG (X.keeps st) (T.keeps st)) (fun fl s' hb => ?_) (fun _ _ x => x.elim)
  · have hq1 := (N q hq).1
    exact ⟨hk₁ _ _ hq1, Nat.ne_of_lt (Heap.lt_size hq1), hideAll_none _ (List.mem_map_of_mem (f := (·.1)) hq)⟩
  · obtain ⟨m', h', tk', rfl, F', o⟩ := hb
    have ext : ∀ b ob, b ≠ 107 → b ≠ 131 → s.heap.get? b = some ob → h'.get? b = some ob := fun b ob h1 h2 e => F'.keep b ob (hideAll_get _ e fun q => by
      rcases List.mem_cons.mp q with q | q
      · exact h1 q
      · exact h2 (List.mem_singleton.mp q))
    refine ret _ h' tk' ⟨?_, fun b ob e => ext b ob (fun q => by rw [q, p1.2.2] at e; cases e) (fun q => by rw [q, p2.2.2] at e; cases e) (F.keep b ob e), F.above⟩ o
    obtain ⟨oL, a1, a2, hL, r⟩ := F.ns
    exact ⟨oL, a1, a2, ext _ _ (Ne.symm p1.2.1) (Ne.symm p2.2.1) hL, r⟩
end Mine

-- part C18
namespace Mine
open PySem PySem.W PySem.Spec PySem.Calls PyProof.Rows
noncomputable abbrev PR (x : Int) : Prop := -128 ≤ x ∧ x ≤ 127
theorem fun2_mono {w : World} {p : Program} {loose : List Str} {mean : ExcName → Option Value} {mg mb : Str → Option Value} {D D' : Nat} {h : Heap} {P P' : Int → Prop} {f : Value} {g : Int → Int → Int}
    (x : Fun2 w p loose mean mg mb D h P f g) (hD : D ≤ D') (hP : ∀ y, P' y → P y) : Fun2 w p loose mean mg mb D' h P' f g :=
  fun a b t u hb => fun dp un gd cn cs a' ccd cl outer A₀ base h₀ L m s Q E B F X T hk hs hd hu ret => x a b t u (hP b hb) dp un gd cn cs a' ccd cl outer A₀ base h₀ L m s Q E B F X T hk hs (by omega) (by omega) ret
noncomputable def foldV (J B : Int → Int → Int) (ns : List Int) : List Int := ns.tail.foldl (laid J B) [ns.headD 0]
noncomputable def pickedV (J B : Int → Int → Int) (ns : List Int) : List Int := (gssV ns).map (pickV J B)
noncomputable def PairOk (w : World) (p : Program) (loose : List Str) (mean : ExcName → Option Value) (mg mb : Str → Option Value) (ns : List Int) (j b : Addr) (ds : List Int) : Prop :=
  ∃ J B : Int → Int → Int, (∀ h, (hd.heap_39 w.params).In h → FnAt j h ∧ FnAt b h) ∧ (∀ h, Fun2 w p loose mean mg mb 2 h (fun _ => True) (.ref j) J) ∧ (∀ h, Fun2 w p loose mean mg mb 2 h PR (.ref b) B) ∧ foldV J B ns = ds ∧ pickedV J B ns = ds
section
variable {w : World} {p : Program} {loose : List Str} {mean : ExcName → Option Value} {mg mb : Str → Option Value}
    {dp un : Nat} {gd : Option (List Code)} {cn : Str} {cs : Scope} {a : Addr} {ccd : Value} {cl : List (Str × Addr)} {outer : List Env} {A₀ : Around} {base h₀ : Heap} {L : Addr} {m : Str → Option Value} {rest : List (Addr × Obj)} {s : Shared} {Q E : Value → Shared → Prop}
theorem tabN_of {h' : Heap} {ps : Array Value} (x : TabOk h' ps) (F : Fr h₀ L h' m) : (ps = #[] ∨ TabN h₀ [] ps) ∨ ∃ q, News h₀ L h' [q] ∧ TabN h₀ [q] ps ∧ q.1 ≠ 107 ∧ ∃ vs t, q.2.data = .fields vs ∧ vs[1]? = some (.str lamQual t) := by
  rcases x with e | ⟨c, oc, vs, t, e, h1, h2, h3, h4⟩
  · exact .inl (.inl e)
  · cases hc : h₀.get? c with
    | some o =>
      have := F.keep _ _ hc
      rw [h1] at this; cases this
      exact .inl (.inr ⟨c, oc, vs, t, e, .inl hc, h2, h3, h4⟩)
    | none =>
      refine .inr ⟨(c, oc), fun q hq => ?_, ⟨c, oc, vs, t, e, .inr (.head _), h2, h3, h4⟩, h4, vs, t, h2, h3⟩
      cases List.mem_singleton.mp hq
      refine ⟨h1, fun eL => ?_, hc⟩
      obtain ⟨oL, es, ep, hL, hdL, _⟩ := F.ns
      have eL' : c = L := eL
      rw [eL', hL] at h1
      cases h1
      rw [hdL] at h2; cases h2
/-- the table's state by the ledger -/
noncomputable def TabL (h₀ : Heap) (cown : List (Addr × Obj)) (ps : Array Value) : Prop := (ps = #[] ∨ TabN h₀ cown ps) ∧ ∀ q ∈ cown, q.1 ≠ 107 ∧ ∃ vs t, q.2.data = .fields vs ∧ vs[1]? = some (.str lamQual t)
theorem tabL_of {h' : Heap} {ps : Array Value} (x : TabOk h' ps) (F : Fr h₀ L h' m) : ∃ cown, News h₀ L h' cown ∧ TabL h₀ cown ps := by
  rcases tabN_of x F with h | ⟨q, N, h, hq⟩
  · exact ⟨[], News.nil, h, fun q hq => nomatch hq⟩
  · exact ⟨[q], N, .inr h, fun q' hq' => by cases List.mem_singleton.mp hq'; exact hq⟩
theorem TabL.ok {h' : Heap} {cown : List (Addr × Obj)} {ps : Array Value} (x : TabL h₀ cown ps) (F : Fr h₀ L h' m) (N : ∀ q ∈ cown, h'.get? q.1 = some q.2) : TabOk h' ps := by
  rcases x.1 with e | e
  · exact .inl e
  · exact e.ok F.keep N
theorem two_use {ps : Array Value} {ns ds : List Int} {vs : List Value} {j b l gr : Addr} {ownG cown0 : List (Addr × Obj)} (ok : PairOk w p loose mean mg mb ns j b ds) (hl : h₀.IsList l vs.toArray) (hi : IntsAre vs ns) (hlo : 2 ≤ ns.length) (hlen : ns.length ≤ 4) (hsm : ∀ x ∈ ns, PR x)
    (hG : ∀ hb : Heap, (∀ q ∈ ownG, hb.get? q.1 = some q.2) → GrpsS PR hb (.ref gr) (gssV ns))
    (B : Below A₀ base outer h₀) (F : Fr h₀ L s.heap m) (X : (hd.heap_39 w.params).In h₀) (N : News h₀ L s.heap ((107, tabObj ps) :: rest)) (hr : ∀ q ∈ rest, q.1 ≠ 107) (hown : ∀ q ∈ ownG, q ∈ rest) (T : Top p loose mean mg mb h₀) (hC : CodeHd h₀ 109 107) (hTab : TabL h₀ cown0 ps) (hcown0 : ∀ q ∈ cown0, q ∈ rest)
    (hk : cs.kind = .function) (hd : dp + 6 < recursionLimit) (hu : un + 8 * 6 < cLine)
    (ret : ∀ (Tu Fo Pi : Addr) (fvs pvs : List Value) (c1 c2 ct : Nat) h' tk' ps' cown, Fr h₀ L h' m → News h₀ L h' ((Tu, tup2 (.ref Fo) (.ref Pi) ct) :: (Pi, listOf pvs.toArray c2) :: (Fo, listOf fvs.toArray c1) :: (107, tabObj ps') :: rest) → News h₀ L h' cown → TabL h₀ cown ps' → IntsAre fvs ds → IntsAre pvs ds → Fo < Pi → Pi < Tu → (∀ q ∈ rest, q.1 < Fo) → Q (.ref Tu) { s with heap := h', toks := tk' }) :
    wpAny (model Challenge.rw_mr0061_01.row.prog w) (ktrTop dp un gd cn cs L a ccd cl outer) (call (.ref 110) [.ref j, .ref b, .ref l, .ref gr]) Q E s := by
  obtain ⟨J, Bd, hfn, hJ, hB, hf, hp⟩ := ok
  obtain ⟨n0, n1, ns', rfl⟩ : ∃ n0 n1 ns', ns = n0 :: n1 :: ns' := by
    rcases ns with _ | ⟨n0, _ | ⟨n1, ns'⟩⟩
    · simp at hlo
    · simp at hlo
    · exact ⟨n0, n1, ns', rfl⟩
  have hst : h₀.StaysIn (hideAll s.heap [107]) := fun q o e => hideAll_get _ (F.keep _ _ e) fun hq => by
    rw [show q = 107 from List.mem_singleton.mp hq, (N _ (.head _)).2.2] at e; cases e
  have hgr := hG (hideAll s.heap [107]) fun q hq => hideAll_get _ (N q (.tail _ (hown q hq))).1 fun e => hr q (hown q hq) (List.mem_singleton.mp e)
  have hfX := hfn _ (X.keeps hst)
  refine trT_use (two_spec (h := hideAll s.heap [107]) (D := 2) (P := PR) hfX.1 hfX.2 (hJ _) (hB _) (stays_list hst hl) hi hsm (by simp) (by simp at hlen ⊢; omega) hgr) B F X N hr T hC (hTab.ok F fun q hq => (N q (.tail _ (hcown0 q hq))).1) hk (fun q o e => of_hideAll _ e) (hideAll_none _ (.head _)) hd hu ?_
  intro r h' tk' ps' F' N' hT' x ⟨Tu, Fo, Pi, fvs, pvs, c1, c2, ct, e, hO, h1, h2, h3, h4⟩
  subst e
  have NO := newOwn_news F hO
  obtain ⟨cown, hNc, hTc⟩ := tabL_of hT' F'
  refine ret Tu Fo Pi fvs pvs c1 c2 ct h' tk' ps' cown F' (fun q hq => ?_) hNc hTc (hf ▸ h1) (hp ▸ h2) h3 h4 (fun q hq => Nat.lt_of_lt_of_le (Heap.lt_size (N q (.tail _ hq)).1) (hO (Fo, listOf fvs.toArray c1) (by simp)).2)
  rcases List.mem_cons.mp hq with rfl | hq
  · exact NO _ (.head _)
  rcases List.mem_cons.mp hq with rfl | hq
  · exact NO _ (.tail _ (.head _))
  rcases List.mem_cons.mp hq with rfl | hq
  · exact NO _ (.tail _ (.tail _ (.head _)))
  · exact N' q hq
end
/-- the plain law of these numbers -/
structure LawOk (ns : List Int) : Prop where
  am : foldV (fun x y => x + y) (fun x y => x * y) ns = pickedV (fun x y => x + y) (fun x y => x * y) ns
  prod : ∀ i : Nat, i < ns.length → wholeV (foldV (fun x y => x + y) (fun x y => x * y) ns) (1 + (i : Int)) ns.length = prodV ns (1 + (i : Int)) ns.length
  oa : foldV Builtin.bitOr Builtin.bitAnd ns = (List.range ns.length).map (dueV (fun x y => decide (x ≥ y)) ns) ∧ pickedV Builtin.bitOr Builtin.bitAnd ns = (List.range ns.length).map (dueV (fun x y => decide (x ≥ y)) ns)
  ao : foldV Builtin.bitAnd Builtin.bitOr ns = (List.range ns.length).map (dueV (fun x y => decide ((ns.length : Int) - x < y)) ns) ∧ pickedV Builtin.bitAnd Builtin.bitOr ns = (List.range ns.length).map (dueV (fun x y => decide ((ns.length : Int) - x < y)) ns)
  xa : foldV Builtin.bitXor Builtin.bitAnd ns = (List.range ns.length).map (dueV (fun x y => decide (Builtin.bitAnd x y = y)) ns) ∧ pickedV Builtin.bitXor Builtin.bitAnd ns = (List.range ns.length).map (dueV (fun x y => decide (Builtin.bitAnd x y = y)) ns)
  gl : foldV (fun x y => if x ≥ y then x else y) (fun x y => if x ≤ y then x else y) ns = (sortV ns).reverse ∧ pickedV (fun x y => if x ≥ y then x else y) (fun x y => if x ≤ y then x else y) ns = (sortV ns).reverse
  ls : foldV (fun x y => if x ≤ y then x else y) (fun x y => x - y) ns = (List.range ns.length).map (spanV ns) ∧ pickedV (fun x y => if x ≤ y then x else y) (fun x y => x - y) ns = (List.range ns.length).map (spanV ns)
end Mine

-- part C19
namespace Mine
open PySem PySem.W PySem.Spec PySem.Calls PyProof.Rows
local macro_rules | `(tactic| walk_at "compareOp NotEq ref ref") => `(tactic| k_extra "m ne")
local macro_rules | `(tactic| walk_at "exec For Tuple Call cons nil") => `(tactic| refine stop_here ?_)
variable {w : World} {p : Program} {loose : List Str} {mean : ExcName → Option Value} {mg mb : Str → Option Value} {h : Heap} {l : Addr} {vs : List Value} {ns : List Int}
theorem fnX {q : Addr} {h : Heap} {name qual : Str} {params : Arguments} {body : List Stmt} {scope : Scope} {dV kV doc pm cdv ct oc : Value} {an od : Option Addr} {osl : Array (Option Value)} (ho : (hd.heap_39 w.params).lookup q = some ⟨oc, od, .func (fnOf name qual params body scope dV kV doc pm an cdv ct), osl⟩) (X : (hd.heap_39 w.params).In h) : FnAt q h := ⟨_, _, _, _, X _ _ ho⟩
theorem pair_am (law : LawOk ns) : PairOk w p loose mean mg mb ns 44 58 (foldV (fun x y => x + y) (fun x y => x * y) ns) :=
  ⟨fun x y => x + y, fun x y => x * y, fun h X => ⟨fnX (by k_is) X, fnX (by k_is) X⟩, fun h => fun2_mono spec_add (by decide) (fun _ _ => trivial), fun h => fun2_mono spec_mul (by decide) (fun y hy => by unfold PR at hy; omega), rfl, law.am.symm⟩
theorem pair_oa (law : LawOk ns) : PairOk w p loose mean mg mb ns 65 51 ((List.range ns.length).map (dueV (fun x y => decide (x ≥ y)) ns)) :=
  ⟨Builtin.bitOr, Builtin.bitAnd, fun h X => ⟨fnX (by k_is) X, fnX (by k_is) X⟩, fun h => fun2_mono spec_or_ (by decide) (fun _ _ => trivial), fun h => fun2_mono spec_and_ (by decide) (fun _ _ => trivial), law.oa.1, law.oa.2⟩
theorem pair_ao (law : LawOk ns) : PairOk w p loose mean mg mb ns 51 65 ((List.range ns.length).map (dueV (fun x y => decide ((ns.length : Int) - x < y)) ns)) :=
  ⟨Builtin.bitAnd, Builtin.bitOr, fun h X => ⟨fnX (by k_is) X, fnX (by k_is) X⟩, fun h => fun2_mono spec_and_ (by decide) (fun _ _ => trivial), fun h => fun2_mono spec_or_ (by decide) (fun _ _ => trivial), law.ao.1, law.ao.2⟩
theorem pair_xa (law : LawOk ns) : PairOk w p loose mean mg mb ns 79 51 ((List.range ns.length).map (dueV (fun x y => decide (Builtin.bitAnd x y = y)) ns)) :=
  ⟨Builtin.bitXor, Builtin.bitAnd, fun h X => ⟨fnX (by k_is) X, fnX (by k_is) X⟩, fun h => fun2_mono spec_xor (by decide) (fun _ _ => trivial), fun h => fun2_mono spec_and_ (by decide) (fun _ _ => trivial), law.xa.1, law.xa.2⟩
theorem pair_gl (law : LawOk ns) : PairOk w p loose mean mg mb ns 86 93 (sortV ns).reverse :=
  ⟨fun x y => if x ≥ y then x else y, fun x y => if x ≤ y then x else y, fun h X => ⟨fnX (by k_is) X, fnX (by k_is) X⟩, fun h => fun2_mono spec_greater (by decide) (fun _ _ => trivial), fun h => fun2_mono spec_lesser (by decide) (fun _ _ => trivial), law.gl.1, law.gl.2⟩
theorem pair_ls (law : LawOk ns) : PairOk w p loose mean mg mb ns 93 72 ((List.range ns.length).map (spanV ns)) :=
  ⟨fun x y => if x ≤ y then x else y, fun x y => x - y, fun h X => ⟨fnX (by k_is) X, fnX (by k_is) X⟩, fun h => fun2_mono spec_lesser (by decide) (fun _ _ => trivial), fun h => fun2_mono spec_sub (by decide) (fun _ _ => trivial), law.ls.1, law.ls.2⟩
theorem loop_itT {prog : Program} {w : World} {A : Around} {s : Shared} {env : Env} {Q : Flow → Shared → Prop} {target : Expr} {body : List Stmt} {I l : Addr} {items : Array Value} {i₀ : Nat}
    (hh : A.handled = none) (Inv : Nat → Shared → Prop) (hI : Inv i₀ s) (h0 : i₀ ≤ items.size)
    (hit : ∀ i s, Inv i s → s.heap.IsListIter I l i ∧ s.heap.IsList l items)
    (step : ∀ i s v, i < items.size → Inv i s → items[i]? = some v → ∀ h', h'.IsListIter I l (i + 1) → Heap.SameBut I s.heap h' →
      wpAny (model prog w) A (assign target env v) (fun _ s₂ => wpAny (model prog w) A (execs body env) (Nx (Inv (i + 1))) (fun _ _ => False) s₂) (fun _ _ => False) { s with heap := h' })
    (done : ∀ s, Inv items.size s → ∀ h', Heap.ExtBut I s.heap h' → Q .next { s with heap := h' }) :
    codeAny (model prog w) A (.forLoop target (.ref I) body [] env) (fun r s' => match r with | .ok f => Q f s' | .error e => cameBackBy (model prog w) A env (fun _ _ => False) e s') s := by
  refine codeAny_forLoop_any (fun n s => ∃ i, i ≤ items.size ∧ n = items.size - i ∧ Inv i s) (fun n s hs => ?_) (items.size - i₀) ⟨i₀, h0, rfl, hI⟩
  obtain ⟨i, hi, rfl, hI⟩ := hs
  obtain ⟨a1, a2⟩ := hit i s hI
  rcases Nat.lt_or_ge i items.size with hlt | hge
  · refine wpAny_pyNext_list_item a1 a2 (Array.getElem?_eq_getElem hlt) fun h' hit' hsb => ?_
    refine letGo_listiter (s' := { s with heap := h' }) hit' ?_
    refine wpAny_mono (step i s _ hlt hI (Array.getElem?_eq_getElem hlt) h' hit' hsb) (fun _ s₂ h₂ => wpAny_mono h₂ (fun f s₃ h₃ => ?_) fun _ _ e => e.elim) fun _ _ e => e.elim
    obtain ⟨rfl, h₃⟩ := h₃
    exact ⟨items.size - (i + 1), by omega, i + 1, hlt, rfl, h₃⟩
  · obtain rfl : i = items.size := by omega
    exact wpAny_pyNext_list_end hh a1 a2 (Array.getElem?_eq_none (Nat.le_refl _)) fun h' hx => wpAny_execs_nil (done s hI h' hx)
noncomputable abbrev mAg (l gr : Addr) (pi fo jn bi du : Option Value) : Str → Option Value := fun y => if y = Str.ofString "due" then du else if y = Str.ofString "bind" then bi else if y = Str.ofString "join" then jn else if y = Str.ofString "picked" then pi else if y = Str.ofString "folded" then fo else if y = Str.ofString "groups" then some (.ref gr) else List.lookup y [(Str.ofString "numbers", Value.ref l)].reverse
theorem mAg_start (l gr : Addr) (v w : Value) : (fun y => if y = Str.ofString "picked" then some v else if y = Str.ofString "folded" then some w else if y = Str.ofString "groups" then some (Value.ref gr) else List.lookup y [(Str.ofString "numbers", Value.ref l)].reverse) = mAg l gr (some v) (some w) none none none := by
  funext y
  by_cases h0 : y = Str.ofString "due"
  · subst h0; rfl
  by_cases h1 : y = Str.ofString "bind"
  · subst h1; rfl
  by_cases h2 : y = Str.ofString "join"
  · subst h2; rfl
  by_cases h3 : y = Str.ofString "picked"
  · subst h3; rfl
  by_cases h4 : y = Str.ofString "folded"
  · subst h4; rfl
  by_cases h5 : y = Str.ofString "groups"
  · subst h5; rfl
  simp only [mAg, h0, h1, h2, h3, h4, h5, if_false]
theorem mAg_turn (l gr : Addr) (pi fo jn bi du : Option Value) (v w j b d : Value) : (fun y => if y = Str.ofString "picked" then some v else if y = Str.ofString "folded" then some w else if y = Str.ofString "due" then some d else if y = Str.ofString "bind" then some b else if y = Str.ofString "join" then some j else mAg l gr pi fo jn bi du y) = mAg l gr (some v) (some w) (some j) (some b) (some d) := by
  funext y
  by_cases h0 : y = Str.ofString "due"
  · subst h0; rfl
  by_cases h1 : y = Str.ofString "bind"
  · subst h1; rfl
  by_cases h2 : y = Str.ofString "join"
  · subst h2; rfl
  by_cases h3 : y = Str.ofString "picked"
  · subst h3; rfl
  by_cases h4 : y = Str.ofString "folded"
  · subst h4; rfl
  by_cases h5 : y = Str.ofString "groups"
  · subst h5; rfl
  simp only [mAg, h0, h1, h2, h3, h4, h5, if_false]
theorem foldV_len {J B : Int → Int → Int} {ns : List Int} (h : 2 ≤ ns.length) : (foldV J B ns).length = ns.length := by
  cases ns with
  | nil => simp at h
  | cons n r => unfold foldV; rw [List.tail_cons, foldl_laid_len]; rfl
theorem ne_same {prog : Program} {w : World} {A : Around} {E : Value → Shared → Prop} {s : Shared} {h₀ : Heap} {L a b : Addr} {vs us : List Value} {ns : List Int} {c d : Nat} {news : List (Addr × Obj)} {Q : Value → Shared → Prop} (N : News h₀ L s.heap news) (h1 : (a, listOf vs.toArray c) ∈ news) (h2 : (b, listOf us.toArray d) ∈ news) (hi : IntsAre vs ns) (hi' : IntsAre us ns) (hu : A.units + 64 < cLine)
    (h : Q (.bool false) s) : wpAny (model prog w) A (compareOp .NotEq (.ref a) (.ref b)) Q E s :=
  ne_intsK ⟨_, (N _ h1).1, rfl, _, rfl⟩ hi ⟨_, (N _ h2).1, rfl, _, rfl⟩ hi' hu (by rw [decide_eq_true rfl]; exact h)
theorem due1_mono {own own' : List (Addr × Obj)} (k : ∀ q ∈ own, q ∈ own') {j b : Addr} {ds : List Int} {v : Value} (x : Due1 own j b ds v) : Due1 own' j b ds v :=
  let ⟨T, e, vs, c, a1, a2, a3, a4⟩ := x; ⟨T, e, vs, c, a1, k _ a2, k _ a3, a4⟩
set_option maxHeartbeats 8000000 in
theorem agree_spec (hl : h.IsList l vs.toArray) (hi : IntsAre vs ns) (hlo : 2 ≤ ns.length) (hlen : ns.length ≤ 4) (hsm : ∀ x ∈ ns, PR x) (law : LawOk ns) :
    TrA w p loose mean mg mb 20 (call (.ref 148) [.ref l]) h (fun h' r => r = .bool true ∧ GrownAt 131 h' ∧ GrownAt 107 h') := by
  refine' enterA (binds := [(Str.ofString "numbers", .ref l)]) ?k6 ?k7 ?k9 ?kB ?kS ?c2 ?c3 ?c4 ?c5 ?cD
  case k6 => k_is
  case k7 => k_is
  case k9 => exact fun s _ => BindsTo.of_eq rfl
  case kB => exact locs rfl
  case c2 => exact rfl
  case c3 => exact rfl
  case c4 => exact rfl
  case c5 => decide
  case cD => exact Nat.succ_pos _
  intro dp un gd env outer A₀ base g L' h₁ s hs hdp hun hke hLP hC1 hC2 F N Bl X T
  (try dsimp only)
  k_fold
  have hlg : g.IsList l vs.toArray := stays_list hs hl
  have hvl : vs.length = ns.length := hi.length
  have hg107 : g.get? 107 = none := (N (107, tabObj #[]) (.head _)).2.2
  have hg131 : g.get? 131 = none := (N (131, tabObj #[]) (.tail _ (.head _))).2.2
  k_with_none
  k_with "m call" => refine stop_here ?_
  k_steps
  unfold Stop
  k_dflt (refine tr_use (groups_spec (h := g) (P := PR) hlg hi hlo hlen hsm) (by k_asm) (by k_asm) (by k_asm) (by k_asm) (by k_asm) (by first | exact rfl | assumption) (by exact F.keep) (by ktr_room) (by ktr_units) ?_)
  intro r2 h2 tk2 F2 N2 k2 o2
  obtain ⟨ownG, hOG, hGG⟩ := o2
  have NG := newN_news F hOG
  have hG107 : ∀ q ∈ ownG, q.1 ≠ 107 := fun q hq e => by
    have := (hOG q hq).2
    rw [e, (N (107, tabObj #[]) (.head _)).1] at this; cases this
  have hG131 : ∀ q ∈ ownG, q.1 ≠ 131 := fun q hq e => by
    have := (hOG q hq).2
    rw [e, (N (131, tabObj #[]) (.tail _ (.head _))).1] at this; cases this
  obtain ⟨gr, hr2⟩ : ∃ gr, r2 = .ref gr := by
    obtain ⟨_, gr, _, e, _⟩ := hGG h2 (fun q hq => (hOG q hq).1)
    exact ⟨gr, e⟩
  subst hr2
  have N3 : News g L' h2 ((107, tabObj #[]) :: (131, tabObj #[]) :: ownG) := fun q hq => by
    rcases List.mem_cons.mp hq with rfl | hq
    · exact N2 _ (.head _)
    rcases List.mem_cons.mp hq with rfl | hq
    · exact N2 _ (.tail _ (.head _))
    · exact NG q hq
  clear N2 NG N hOG F
  dsimp only
  k_steps
  unfold Stop
  rename_i h3 F3 N3
  have hrest3 : ∀ q ∈ (131, tabObj #[]) :: ownG, q.1 ≠ 107 := fun q hq => by
    rcases List.mem_cons.mp hq with rfl | hq
    · exact (by decide : (131 : Nat) ≠ 107)
    · exact hG107 q hq
  k_dflt (refine two_use (ownG := ownG) (pair_am law) hlg hi hlo hlen hsm hGG (by k_asm) F3 (by k_asm) N3 hrest3 (fun q hq => .tail _ hq) (by k_asm) hC1 (cown0 := []) ⟨.inl rfl, fun q hq => nomatch hq⟩ (fun q hq => nomatch hq) (by first | exact rfl | assumption) (by ktr_room) (by ktr_units) ?_)
  intro Tu Fo Pi fvs pvs c1 c2 ct h4 tk4 ps4 cown F4 N4' Nc4 hT4 hfi hpi hFP hPT hlt4
  have N4 : News g L' h4 ((Tu, tup2 (.ref Fo) (.ref Pi) ct) :: (Pi, listOf pvs.toArray c2) :: (Fo, listOf fvs.toArray c1) :: (107, tabObj ps4) :: (131, tabObj #[]) :: (ownG ++ cown)) := fun q hq => by
    simp only [List.mem_cons, List.mem_append] at hq
    rcases hq with h | h | h | h | h | h | h
    · exact N4' q (by simp [h])
    · exact N4' q (by simp [h])
    · exact N4' q (by simp [h])
    · exact N4' q (by simp [h])
    · exact N4' q (by simp [h])
    · exact N4' q (by simp [h])
    · exact Nc4 q h
  have hc131 : ∀ q ∈ cown, q.1 ≠ 131 := fun q hq e => by
    have h1 := (Nc4 q hq).1
    rw [e, (N4' (131, tabObj #[]) (by simp)).1] at h1
    obtain ⟨vs', t', h2, h3⟩ := (hT4.2 q hq).2
    rw [← Option.some.inj h1] at h2
    cases h2
    simp at h3
  clear N3 F3 N4' Nc4
  (try dsimp only)
  k_with "m ne" => refine stop_here ?_
  k_steps
  unfold Stop
  rename_i h5 h6 h7 F7 N7
  refine ne_same N7 (.tail _ (.tail _ (.head _))) (.tail _ (.head _)) hfi hpi (by first | ktr_units | units_room | (simp only [Around.deeper]; omega)) ?_
  clear hlt4
  (try dsimp only)
  k_steps
  unfold Stop
  k_dflt (refine tr_use (product_spec (h := h7) (stays_list F7.keep hlg) hi ⟨_, (N7 (Fo, listOf fvs.toArray c1) (by simp)).1, rfl, _, rfl⟩ hfi hlen (foldV_len hlo) hsm law.prod) (by k_asm) (by k_asm) (by k_asm) (by k_asm) (by k_asm) (by first | exact rfl | assumption) (by exact stays_refl _) (by ktr_room) (by ktr_units) ?_)
  intro r9 h9 tk9 F9 N9 k9 o9
  subst o9
  clear N7 F7
  (try dsimp only)
  k_steps
  unfold Stop
  replace F9 : Fr g L' h9 (mAg l gr (some (.ref Pi)) (some (.ref Fo)) none none none) := mAg_start l gr _ _ ▸ F9
  have N10 : News g L' h9 ((131, tabObj #[]) :: (107, tabObj ps4) :: (ownG ++ cown)) := fun q hq => N9 q (by
    simp only [List.mem_cons] at hq ⊢
    rcases hq with h | h | h
    · exact .inr (.inr (.inr (.inr (.inl h))))
    · exact .inr (.inr (.inr (.inl h)))
    · exact .inr (.inr (.inr (.inr (.inr h)))))
  have hr10 : ∀ q ∈ (107, tabObj ps4) :: (ownG ++ cown), q.1 ≠ 131 := fun q hq => by
    rcases List.mem_cons.mp hq with rfl | hq
    · exact (by decide : (107 : Nat) ≠ 131)
    rcases List.mem_append.mp hq with hq | hq
    · exact hG131 q hq
    · exact hc131 q hq
  clear N9 k9
  refine wpAny_For (hs := by intro _; rfl) ?_
  k_steps
  unfold Stop
  k_dflt (refine trD_use (due_spec (h := g) hlg hi hlo hlen hsm) (by k_asm) F9 (by k_asm) N10 hr10 (by k_asm) hC2 (by first | exact rfl | assumption) (by exact F9.keep) hg131 (by ktr_room) (by ktr_units) ?_)
  intro r11 h11 tk11 F11 N11 x11 o11
  obtain ⟨⟨ownD0, R, v1, v2, v3, v4, v5, rfl, hOD, hR0, hd1, hd2, hd3, hd4, hd5⟩, pd, hpd⟩ := o11
  have ND0 := newOwn_news F9 hOD
  have hRL : h11.IsList R #[v1, v2, v3, v4, v5] := ⟨_, (hOD _ hR0).1, rfl, _, rfl⟩
  have hD1070 : ∀ q ∈ ownD0, q.1 ≠ 107 := fun q hq => Nat.ne_of_gt (Nat.lt_of_lt_of_le (Heap.lt_size (N10 (107, tabObj ps4) (by simp)).1) (hOD q hq).2)
  obtain ⟨ownD, hsub, h131, ND, hD107⟩ : ∃ ownD : List (Addr × Obj), (∀ q ∈ ownD0, q ∈ ownD) ∧ (131, tabObj pd) ∈ ownD ∧ News g L' h11 ownD ∧ ∀ q ∈ ownD, q.1 ≠ 107 := by
    refine ⟨(131, tabObj pd) :: ownD0, fun q hq => .tail _ hq, .head _, fun q hq => ?_, fun q hq => ?_⟩
    · rcases List.mem_cons.mp hq with rfl | hq
      · exact ⟨hpd, (N10 (131, tabObj #[]) (.head _)).2⟩
      · exact ND0 q hq
    · rcases List.mem_cons.mp hq with rfl | hq
      · exact (by decide : (131 : Nat) ≠ 107)
      · exact hD1070 q hq
  have hR := hsub _ hR0
  replace hd1 := due1_mono hsub hd1
  replace hd2 := due1_mono hsub hd2
  replace hd3 := due1_mono hsub hd3
  replace hd4 := due1_mono hsub hd4
  replace hd5 := due1_mono hsub hd5
  clear ND0 hR0 hD1070 hOD hsub hpd
  refine wpAny_pyIter_list hRL ?_
  dsimp only
  have F12 := F11.push { cls := .type "list_iterator", data := .fields #[.ref R, .int 0 0] }
  have N12 := News.push F11 (fun q hq => (List.mem_append.mp hq).elim (N11 q) (ND q) : News g L' h11 (((107, tabObj ps4) :: (ownG ++ cown)) ++ ownD)) { cls := .type "list_iterator", data := .fields #[.ref R, .int 0 0] }
  have hlt12 : ∀ q ∈ ((107, tabObj ps4) :: (ownG ++ cown)) ++ ownD, q.1 ≠ h11.objs.size := fun q hq => Nat.ne_of_lt (Heap.lt_size ((List.mem_append.mp hq).elim (fun h => (N11 q h).1) (fun h => (ND q h).1)))
  generalize h11.objs.size = I at N12 hlt12 ⊢
  refine loop_itT (I := I) (l := R) (items := #[v1, v2, v3, v4, v5]) (i₀ := 0) rfl
    (fun i s₁ => ∃ (pi fo jn bi du : Option Value) (ps : Array Value) (cw : List (Addr × Obj)) (h : Heap) (tk : Nat) (o : Obj), s₁ = { s with heap := h, toks := tk } ∧ Fr g L' h (mAg l gr pi fo jn bi du) ∧
      News g L' h ((I, o) :: (107, tabObj ps) :: (ownG ++ cw ++ ownD)) ∧ ItL o R i ∧ TabL g cw ps ∧ ∀ q ∈ cw, q.1 ≠ I) ?_ (Nat.zero_le _) ?_ ?_ ?_
  · exact ⟨_, _, _, _, _, _, cown, _, _, _, rfl, F12, N12, ⟨rfl, rfl⟩, hT4, fun q hq => hlt12 q (by simp [hq])⟩
  · rintro i s₁ ⟨pi, fo, jn, bi, du, ps, cw, h13, tk13, o13, rfl, F13, N13, hit13, hT13, hcI13⟩
    exact ⟨hit13.at (N13 _ (.head _)).1, ⟨_, (N13 (R, listOf #[v1, v2, v3, v4, v5] 0) (by simp [hR])).1, rfl, _, rfl⟩⟩
  · rintro i s₁ e hlt ⟨pi, fo, jn, bi, du, ps, cw, h13, tk13, o13, rfl, F13, N13, hit13, hT13, hcI13⟩ hv h14 ⟨o14, ho14, hc14, hd14⟩ hsb
    have hIr : ∀ q ∈ (107, tabObj ps) :: (ownG ++ cw ++ ownD), q.1 ≠ I := fun q hq => by
      rcases List.mem_cons.mp hq with rfl | hq
      · exact hlt12 (107, tabObj ps4) (by simp)
      · simp only [List.mem_append] at hq
        rcases hq with (hq | hq) | hq
        · exact hlt12 q (by simp [hq])
        · exact hcI13 q hq
        · exact hlt12 q (by simp [hq])
    have hm := N13 (I, o13) (.head _)
    have F14 := F13.change hsb hm.2.1 hm.2.2
    obtain ⟨j, b, ds, ok, T', e', dv, dc, rfl, hmT, hme, hdi⟩ : ∃ j b ds, PairOk w p loose mean mg mb ns j b ds ∧ Due1 ownD j b ds e := by
      have hi5 : i < 5 := hlt
      obtain rfl | rfl | rfl | rfl | rfl : i = 0 ∨ i = 1 ∨ i = 2 ∨ i = 3 ∨ i = 4 := by omega
      · cases hv; exact ⟨_, _, _, pair_oa law, hd1⟩
      · cases hv; exact ⟨_, _, _, pair_ao law, hd2⟩
      · cases hv; exact ⟨_, _, _, pair_xa law, hd3⟩
      · cases hv; exact ⟨_, _, _, pair_gl law, hd4⟩
      · cases hv; exact ⟨_, _, _, pair_ls law, hd5⟩
    have N14 : News g L' h14 ((107, tabObj ps) :: (T', tup3 (.ref j) (.ref b) (.ref e')) :: (e', listOf dv.toArray dc) :: (I, o14) :: (ownG ++ cw ++ ownD)) := fun q hq => by
      have key : ∀ q ∈ (107, tabObj ps) :: (ownG ++ cw ++ ownD), h14.get? q.1 = some q.2 ∧ q.1 ≠ L' ∧ g.get? q.1 = none := fun q hq => by
        have := N13 q (.tail _ hq)
        exact ⟨(hsb.2 _ (hIr q hq)).trans this.1, this.2⟩
      rcases List.mem_cons.mp hq with rfl | hq
      · exact key _ (.head _)
      rcases List.mem_cons.mp hq with rfl | hq
      · exact key _ (by simp [hmT])
      rcases List.mem_cons.mp hq with rfl | hq
      · exact key _ (by simp [hme])
      rcases List.mem_cons.mp hq with rfl | hq
      · exact ⟨ho14, hm.2⟩
      · exact key _ (.tail _ hq)
    have hI107 : I ≠ 107 := fun e => hIr (107, tabObj ps) (.head _) e.symm
    have hr14 : ∀ q ∈ (T', tup3 (.ref j) (.ref b) (.ref e')) :: (e', listOf dv.toArray dc) :: (I, o14) :: (ownG ++ cw ++ ownD), q.1 ≠ 107 := fun q hq => by
      rcases List.mem_cons.mp hq with rfl | hq
      · exact hD107 _ hmT
      rcases List.mem_cons.mp hq with rfl | hq
      · exact hD107 _ hme
      rcases List.mem_cons.mp hq with rfl | hq
      · exact hI107
      simp only [List.mem_append] at hq
      rcases hq with (hq | hq) | hq
      · exact hG107 q hq
      · exact (hT13.2 q hq).1
      · exact hD107 q hq
    clear F13 N13 F12 N12 F11 N11 F9 N10 hsb
    k_with_none
    k_with "m call" => refine stop_here ?_
    k_with "m ne" => refine stop_here ?_
    dsimp only
    k_steps
    unfold Stop
    rename_i h15 h16 h17 h18 F18 N18
    k_dflt (refine two_use (ownG := ownG) ok hlg hi hlo hlen hsm hGG (by k_asm) F18 (by k_asm) N18 hr14 (fun q hq => by simp [hq]) (by k_asm) hC1 (cown0 := cw) hT13 (fun q hq => by simp [hq]) (by first | exact rfl | assumption) (by ktr_room) (by ktr_units) ?_)
    intro Tu2 Fo2 Pi2 fvs2 pvs2 d1 d2 dt h20 tk20 ps20 cown2 F20 N20' Nc20 hT20 hfi2 hpi2 hFP2 hPT2 hlt20
    have hcI20 : ∀ q ∈ cown2, q.1 ≠ I := fun q hq e => by
      have h1 := (Nc20 q hq).1
      rw [e, (N20' (I, o14) (by simp)).1] at h1
      obtain ⟨vs', t', h2, h3⟩ := (hT20.2 q hq).2
      rw [← Option.some.inj h1, hd14] at h2
      cases h2
      simp at h3
    have N20 : News g L' h20 ((Tu2, tup2 (.ref Fo2) (.ref Pi2) dt) :: (Pi2, listOf pvs2.toArray d2) :: (Fo2, listOf fvs2.toArray d1) :: (e', listOf dv.toArray dc) :: (107, tabObj ps20) :: (I, o14) :: (ownG ++ cown2 ++ ownD)) := fun q hq => by
      simp only [List.mem_cons, List.mem_append] at hq
      rcases hq with h | h | h | h | h | h | (h | h) | h
      · exact N20' q (by simp [h])
      · exact N20' q (by simp [h])
      · exact N20' q (by simp [h])
      · exact N20' q (by simp [h])
      · exact N20' q (by simp [h])
      · exact N20' q (by simp [h])
      · exact N20' q (by simp [h])
      · exact Nc20 q h
      · exact N20' q (by simp [h])
    clear N18 F18 N20' Nc20 hlt20
    (try dsimp only)
    k_steps
    unfold Stop
    rename_i h21 h22 h23 F23 N23
    refine ne_same N23 (.tail _ (.tail _ (.head _))) (.tail _ (.tail _ (.tail _ (.head _)))) hfi2 hdi (by first | ktr_units | units_room | (simp only [Around.deeper]; omega)) ?_
    (try dsimp only)
    k_steps
    unfold Stop
    refine ne_same N23 (.tail _ (.head _)) (.tail _ (.tail _ (.tail _ (.head _)))) hpi2 hdi (by first | ktr_units | units_room | (simp only [Around.deeper]; omega)) ?_
    (try dsimp only)
    k_steps
    rw [mAg_turn] at F23
    refine ⟨rfl, _, _, _, _, _, ps20, cown2, _, _, o14, rfl, F23, fun q hq => N23 q ?_, ⟨hc14, hd14⟩, hT20, hcI20⟩
    simp only [List.mem_cons] at hq ⊢
    rcases hq with h | h | h
    · exact .inr (.inr (.inr (.inr (.inr (.inl h)))))
    · exact .inr (.inr (.inr (.inr (.inl h))))
    · exact .inr (.inr (.inr (.inr (.inr (.inr h)))))
  · rintro s₁ ⟨pi, fo, jn, bi, du, ps, cw, h13, tk13, o13, rfl, F13, N13, hit13, hT13, hcI13⟩ h14 hx14
    have hm := N13 (I, o13) (.head _)
    have F14 : Fr g L' h14 (mAg l gr pi fo jn bi du) := ⟨F13.ns.extBut hx14 hm.2.1.symm, fun b ob e => hx14 b ob (fun q => by rw [q, hm.2.2] at e; cases e) (F13.keep b ob e), F13.above⟩
    have N14 : News g L' h14 [] := News.nil
    have hg131 : GrownAt 131 h14 := ⟨pd, hx14 _ _ (hlt12 (131, tabObj pd) (by simp [h131])) (N13 (131, tabObj pd) (by simp [h131])).1⟩
    have hg107 : GrownAt 107 h14 := ⟨ps, hx14 _ _ (hlt12 (107, tabObj ps4) (by simp)) (N13 (107, tabObj ps) (by simp)).1⟩
    clear F13 N13 F12 N12 F11 N11 F9 N10
    k_with_none
    dsimp only
    k_steps
    exact back_ F14 ⟨rfl, hg131, hg107⟩
end Mine

-- part P1
namespace Mine
open PySem
noncomputable def idx (n : Nat) (m : Int) : List Int := (rangeI n).filter (bitM m)
noncomputable def idss (n : Nat) : List (List (List Int)) := (List.range n).map fun j => ((List.range (2 ^ n - 1)).filter fun (m : Nat) => (idx n (1 + (m : Int))).length == j + 1).map fun (m : Nat) => idx n (1 + (m : Int))
theorem gss_idss (ns : List Int) : gssV ns = (idss ns.length).map (List.map (List.map fun a => ns.getD a.toNat 0)) := by
  unfold gssV idss
  rw [List.map_map]
  refine List.map_congr_left fun j _ => ?_
  unfold cssV
  rw [Function.comp, List.map_map]
  simp only [chosen, idx, List.length_map]
  rfl
theorem idss2 : idss 2 = [[[0], [1]], [[0, 1]]] := by decide +kernel
theorem idss3 : idss 3 = [[[0], [1], [2]], [[0, 1], [0, 2], [1, 2]], [[0, 1, 2]]] := by decide +kernel
theorem idss4 : idss 4 = [[[0], [1], [2], [3]], [[0, 1], [0, 2], [1, 2], [0, 3], [1, 3], [2, 3]], [[0, 1, 2], [0, 1, 3], [0, 2, 3], [1, 2, 3]], [[0, 1, 2, 3]]] := by decide +kernel
theorem gss2 (a b : Int) : gssV [a, b] = [[[a], [b]], [[a, b]]] := by
  rw [gss_idss, show [a, b].length = 2 from rfl, idss2]; rfl
theorem gss3 (a b c : Int) : gssV [a, b, c] = [[[a], [b], [c]], [[a, b], [a, c], [b, c]], [[a, b, c]]] := by
  rw [gss_idss, show [a, b, c].length = 3 from rfl, idss3]; rfl
theorem gss4 (a b c d : Int) : gssV [a, b, c, d] = [[[a], [b], [c], [d]], [[a, b], [a, c], [b, c], [a, d], [b, d], [c, d]], [[a, b, c], [a, b, d], [a, c, d], [b, c, d]], [[a, b, c, d]]] := by
  rw [gss_idss, show [a, b, c, d].length = 4 from rfl, idss4]; rfl
/-- the two roads meet wherever binding spreads over joining -/
theorem roads {J B : Int → Int → Int} (ha : ∀ x y z, J (J x y) z = J x (J y z)) (hd : ∀ x y z, B (J x y) z = J (B x z) (B y z)) {ns : List Int} (h2 : 2 ≤ ns.length) (h4 : ns.length ≤ 4) : foldV J B ns = pickedV J B ns := by
  match ns, h2, h4 with
  | [a, b], _, _ =>
    unfold pickedV
    rw [gss2]
    rfl
  | [a, b, c], _, _ =>
    unfold pickedV
    rw [gss3]
    simp only [foldV, laid, laidT, pickV, red, List.tail, List.headD, List.foldl, List.map, hd, ha]
  | [a, b, c, d], _, _ =>
    unfold pickedV
    rw [gss4]
    simp only [foldV, laid, laidT, pickV, red, List.tail, List.headD, List.foldl, List.map, hd, ha]
end Mine

-- part P2
namespace Mine
open PySem
theorem law_am {ns : List Int} (h2 : 2 ≤ ns.length) (h4 : ns.length ≤ 4) : foldV (fun x y => x + y) (fun x y => x * y) ns = pickedV (fun x y => x + y) (fun x y => x * y) ns :=
  roads (fun x y z => Int.add_assoc x y z) (fun x y z => Int.add_mul x y z) h2 h4
theorem law_prod {ns : List Int} (h2 : 2 ≤ ns.length) (h4 : ns.length ≤ 4) (t : Int) : wholeV (foldV (fun x y => x + y) (fun x y => x * y) ns) t ns.length = prodV ns t ns.length := by
  match ns, h2, h4 with
  | [a, b], _, _ =>
    simp only [foldV, laid, laidT, List.tail, List.headD, List.foldl, wholeV, prodV, List.length, List.getD, List.getElem?_cons_zero, List.getElem?_cons_succ, Option.getD]
    grind
  | [a, b, c], _, _ =>
    simp only [foldV, laid, laidT, List.tail, List.headD, List.foldl, wholeV, prodV, List.length, List.getD, List.getElem?_cons_zero, List.getElem?_cons_succ, Option.getD]
    grind
  | [a, b, c, d], _, _ =>
    simp only [foldV, laid, laidT, List.tail, List.headD, List.foldl, wholeV, prodV, List.length, List.getD, List.getElem?_cons_zero, List.getElem?_cons_succ, Option.getD]
    grind
theorem law_gl {ns : List Int} (h2 : 2 ≤ ns.length) (h4 : ns.length ≤ 4) : foldV (fun x y => if x ≥ y then x else y) (fun x y => if x ≤ y then x else y) ns = pickedV (fun x y => if x ≥ y then x else y) (fun x y => if x ≤ y then x else y) ns :=
  roads (fun x y z => by grind) (fun x y z => by grind) h2 h4
theorem law_ls {ns : List Int} (h2 : 2 ≤ ns.length) (h4 : ns.length ≤ 4) : foldV (fun x y => if x ≤ y then x else y) (fun x y => x - y) ns = pickedV (fun x y => if x ≤ y then x else y) (fun x y => x - y) ns :=
  roads (fun x y z => by grind) (fun x y z => by grind) h2 h4
end Mine

-- part P4
namespace Mine
open PySem
/-- a number into its place among greater and lesser ones -/
noncomputable def insD (x : Int) : List Int → List Int
  | [] => [x]
  | y :: r => if y ≤ x then x :: y :: r else y :: insD x r
noncomputable abbrev gV (x y : Int) : Int := if x ≥ y then x else y
noncomputable abbrev lV (x y : Int) : Int := if x ≤ y then x else y
theorem laidT_le (x : Int) : ∀ (r : List Int) (p : Int), (p :: r).Pairwise (· ≥ ·) → p ≤ x → laidT gV lV x p r = p :: r
  | [], p, _, h => by simp [laidT, lV, h]
  | n :: r, p, hp, h => by
    have hn : n ≤ p := (List.pairwise_cons.mp hp).1 n (.head _)
    rw [laidT, laidT_le x r n (List.pairwise_cons.mp hp).2 (by omega)]
    have : gV n (lV p x) = p := by simp only [gV, lV, if_pos h]; split <;> omega
    rw [this]
theorem laid_ins (x : Int) : ∀ (r : List Int) (p : Int), (p :: r).Pairwise (· ≥ ·) → laid gV lV (p :: r) x = insD x (p :: r)
  | r, p, hp => by
    unfold laid insD
    dsimp only
    by_cases h : p ≤ x
    · rw [if_pos h, laidT_le x r p hp h]
      have : gV p x = x := by simp only [gV]; split <;> omega
      rw [this]
    · rw [if_neg h]
      have h1 : gV p x = p := by simp only [gV]; split <;> omega
      have h2 : lV p x = x := by simp only [lV]; split <;> omega
      rw [h1]
      congr 1
      cases r with
      | nil => simp only [laidT, h2, insD]
      | cons n t =>
        have := laid_ins x t n (List.pairwise_cons.mp hp).2
        rw [← this, laidT, h2, laid]
theorem insD_perm (x : Int) : ∀ l, (insD x l).Perm (x :: l)
  | [] => .refl _
  | y :: r => by
    unfold insD
    split
    · exact .refl _
    · exact ((insD_perm x r).cons y).trans (.swap x y r)
theorem insD_sorted (x : Int) : ∀ l, l.Pairwise (· ≥ ·) → (insD x l).Pairwise (· ≥ ·)
  | [], _ => by simp [insD]
  | y :: r, h => by
    have h' := List.pairwise_cons.mp h
    unfold insD
    split
    · rename_i hy
      refine List.pairwise_cons.mpr ⟨fun a ha => ?_, h⟩
      rcases List.mem_cons.mp ha with rfl | ha
      · exact hy
      · have := h'.1 a ha
        show a ≤ x
        have : a ≤ y := this
        omega
    · rename_i hy
      refine List.pairwise_cons.mpr ⟨fun a ha => ?_, insD_sorted x r h'.2⟩
      rcases List.mem_cons.mp ((insD_perm x r).mem_iff.mp ha) with rfl | ha
      · show a ≤ y
        omega
      · exact h'.1 a ha
theorem fold_desc : ∀ (xs l : List Int), 0 < l.length → l.Pairwise (· ≥ ·) → (xs.foldl (laid gV lV) l).Pairwise (· ≥ ·) ∧ (xs.foldl (laid gV lV) l).Perm (xs ++ l)
  | [], l, _, h => ⟨h, .refl _⟩
  | x :: xs, [], h0, h => absurd h0 (by simp)
  | x :: xs, p :: r, h0, h => by
    rw [List.foldl_cons, laid_ins x r p h]
    have hp := insD_perm x (p :: r)
    obtain ⟨h1, h2⟩ := fold_desc xs (insD x (p :: r)) (by rw [hp.length_eq]; simp) (insD_sorted x _ h)
    refine ⟨h1, h2.trans ?_⟩
    refine ((hp.append_left xs).trans ?_)
    exact List.perm_middle
theorem fold_gl {ns : List Int} (h : 0 < ns.length) : foldV gV lV ns = (sortV ns).reverse := by
  cases ns with
  | nil => simp at h
  | cons a r =>
    obtain ⟨h1, h2⟩ := fold_desc r [a] (by simp) (by simp)
    unfold foldV
    rw [List.tail_cons, List.headD_cons]
    rw [← List.reverse_reverse (List.foldl (laid gV lV) [a] r)]
    congr 1
    refine sorted_eq ((List.reverse_perm _).trans (h2.trans (List.perm_append_comm.trans (sortV_perm _).symm))) (List.pairwise_reverse.mpr h1) (sortV_sorted _)
theorem g_le {x y : Int} (h : x ≤ y) : gV x y = y := by unfold gV; split <;> omega
theorem g_ge {x y : Int} (h : y ≤ x) : gV x y = x := if_pos h
theorem l_le {x y : Int} (h : x ≤ y) : lV x y = x := if_pos h
theorem l_ge {x y : Int} (h : y ≤ x) : lV x y = y := by unfold lV; split <;> omega
theorem l_comm (x y : Int) : lV x y = lV y x := by
  rcases Int.le_total x y with h | h
  · rw [l_le h, l_ge h]
  · rw [l_ge h, l_le h]
theorem l_assoc (x y z : Int) : lV (lV x y) z = lV x (lV y z) := by
  rcases Int.le_total x y with h | h <;> rcases Int.le_total y z with k | k
  · rw [l_le h, l_le k, l_le h, l_le (Int.le_trans h k)]
  · rw [l_le h, l_ge k]
  · rw [l_ge h, l_le k, l_ge h]
  · rw [l_ge h, l_ge k, l_ge (Int.le_trans k h)]
theorem l_left (x y z : Int) : lV x (lV y z) = lV y (lV x z) := by rw [← l_assoc, l_comm x y, l_assoc]
theorem l_sub (x y z : Int) : lV x y - z = lV (x - z) (y - z) := by
  rcases Int.le_total x y with h | h
  · rw [l_le h, l_le (Int.sub_le_sub_right h z)]
  · rw [l_ge h, l_ge (Int.sub_le_sub_right h z)]
theorem sub_g (x y z : Int) : x - gV y z = lV (x - y) (x - z) := by
  rcases Int.le_total y z with h | h
  · rw [g_le h, l_ge (Int.sub_le_sub_left h x)]
  · rw [g_ge h, l_le (Int.sub_le_sub_left h x)]
theorem g_add_l (x y : Int) : gV x y + lV x y = x + y := by
  rcases Int.le_total x y with h | h
  · rw [g_le h, l_le h, Int.add_comm]
  · rw [g_ge h, l_ge h]
/-- the two greatest of three are the greatest two -/
theorem top2 (b c d : Int) : gV (gV b c) d + gV (lV b c) (lV (gV b c) d) = gV (gV (b + c) (b + d)) (c + d) := by
  rcases Int.le_total b c with h | h
  · rw [g_le h, l_le h]
    rcases Int.le_total c d with k | k
    · rw [g_le k, l_le k, g_le h, g_le (Int.add_le_add_left k b), g_le (Int.add_le_add_right h d), Int.add_comm]
    · rw [g_ge k, l_ge k, g_ge (Int.add_le_add_left k b), Int.add_comm b c]
      rcases Int.le_total b d with j | j
      · rw [g_le j, g_le (Int.add_le_add_left j c)]
      · rw [g_ge j, g_ge (Int.add_le_add_left j c)]
  · rw [g_ge h, l_ge h]
    rcases Int.le_total b d with k | k
    · rw [g_le k, l_le k, g_le h, g_le (Int.add_le_add_left (Int.le_trans h k) b), g_ge (Int.add_le_add_right h d), Int.add_comm]
    · rw [g_ge k, l_ge k]
      rcases Int.le_total c d with j | j
      · rw [g_le j, g_le (Int.add_le_add_left j b), g_ge (Int.add_le_add_right h d)]
      · rw [g_ge j, g_ge (Int.add_le_add_left j b), Int.add_comm b c, g_ge (Int.add_le_add_left k c)]
theorem l_lg (x y : Int) : lV (lV x y) (gV x y) = lV x y := by
  rcases Int.le_total x y with h | h
  · rw [g_le h, l_le h, l_le h]
  · rw [g_ge h, l_ge h, l_le h]
theorem top3 (b c d : Int) : gV (gV b c) d + (gV (lV b c) (lV (gV b c) d) + lV (lV b c) d) = b + (c + d) := by
  have h1 := g_add_l (lV b c) (lV (gV b c) d)
  rw [← l_assoc, l_lg] at h1
  have h2 := g_add_l (gV b c) d
  have h3 := g_add_l b c
  omega
theorem minV_cons (x : Int) (r : List Int) : minV (x :: r) = r.foldl lV x := rfl
theorem fold_ls {ns : List Int} (h2 : 2 ≤ ns.length) (h4 : ns.length ≤ 4) : foldV lV (fun x y => x - y) ns = (List.range ns.length).map (spanV ns) := by
  match ns, h2, h4 with
  | [a, b], _, _ =>
    show _ = [minV [a - 0, b - 0], minV [a - ((sortV [b]).reverse.take 1).sum]]
    rw [← fold_gl (by simp)]
    simp only [foldV, laid, laidT, List.tail, List.headD, List.foldl, minV_cons, List.take, List.sum_cons, List.sum_nil, Int.sub_zero, Int.add_zero]
  | [a, b, c], _, _ =>
    show _ = [minV [a - 0, b - 0, c - 0], minV [a - ((sortV [b, c]).reverse.take 1).sum, b - ((sortV [c]).reverse.take 1).sum], minV [a - ((sortV [b, c]).reverse.take 2).sum]]
    rw [← fold_gl (by simp), ← fold_gl (by simp)]
    simp only [foldV, laid, laidT, List.tail, List.headD, List.foldl, minV_cons, List.take, List.sum_cons, List.sum_nil, Int.sub_zero, Int.add_zero, List.cons.injEq, and_true, true_and, g_add_l, Int.sub_sub]
    simp only [l_sub, sub_g, l_assoc]
  | [a, b, c, d], _, _ =>
    show _ = [minV [a - 0, b - 0, c - 0, d - 0], minV [a - ((sortV [b, c, d]).reverse.take 1).sum, b - ((sortV [c, d]).reverse.take 1).sum, c - ((sortV [d]).reverse.take 1).sum], minV [a - ((sortV [b, c, d]).reverse.take 2).sum, b - ((sortV [c, d]).reverse.take 2).sum], minV [a - ((sortV [b, c, d]).reverse.take 3).sum]]
    rw [← fold_gl (by simp), ← fold_gl (by simp), ← fold_gl (by simp)]
    simp only [foldV, laid, laidT, List.tail, List.headD, List.foldl, minV_cons, List.take, List.sum_cons, List.sum_nil, Int.sub_zero, Int.add_zero, List.cons.injEq, and_true, true_and, top2, top3, g_add_l]
    simp only [l_sub, sub_g, Int.sub_sub, Int.add_assoc, and_true]
    exact ⟨by simp only [l_comm, l_left], by simp only [l_comm, l_left]⟩
end Mine

-- part P5
namespace Mine
open PySem PySem.W PyProof.Rows
noncomputable def bt (j : Nat) (x : Int) : Bool := decide (x / 2 ^ j % 2 = 1)
theorem bitB_bt (j : Nat) (x : Int) : bitB j x = bt j x := by
  unfold bitB bt
  rw [bitAnd_m1, show (0 + (j : Int)).toNat = j from by omega, Int.fdiv_eq_ediv_of_nonneg _ (Int.le_of_lt (kbt_pos j))]
  generalize x / 2 ^ j = y
  by_cases h : y % 2 = 1
  · simp [h]
  · have : y % 2 = 0 := by omega
    simp [this]
theorem bt_succ (j : Nat) (x : Int) : bt (j + 1) x = bt j (x / 2) := by
  unfold bt
  rw [Int.pow_succ', Int.ediv_ediv_of_nonneg (by decide)]
theorem and_half (x y : Int) : Builtin.bitAnd x y / 2 = Builtin.bitAnd (x / 2) (y / 2) := by
  have := kbt_halves x y
  split at this <;> omega
theorem or_half (x y : Int) : Builtin.bitOr x y / 2 = Builtin.bitOr (x / 2) (y / 2) := by
  have := kbt_halves x y
  rw [bitOr_and, bitOr_and]
  split at this <;> omega
theorem xor_half (x y : Int) : Builtin.bitXor x y / 2 = Builtin.bitXor (x / 2) (y / 2) := by
  have := kbt_halves x y
  rw [bitXor_and, bitXor_and]
  split at this <;> omega
theorem bt_and : ∀ (j : Nat) (x y : Int), bt j (Builtin.bitAnd x y) = (bt j x && bt j y)
  | 0, x, y => by
    have := kbt_halves x y
    simp only [bt, Int.pow_zero, Int.ediv_one]
    rw [Bool.eq_iff_iff]
    simp only [Bool.and_eq_true, decide_eq_true_eq]
    split at this <;> omega
  | j + 1, x, y => by rw [bt_succ, and_half, bt_and j, ← bt_succ, ← bt_succ]
theorem bt_or : ∀ (j : Nat) (x y : Int), bt j (Builtin.bitOr x y) = (bt j x || bt j y)
  | 0, x, y => by
    have := kbt_halves x y
    rw [bitOr_and]
    simp only [bt, Int.pow_zero, Int.ediv_one]
    rw [Bool.eq_iff_iff]
    simp only [Bool.or_eq_true, decide_eq_true_eq]
    split at this <;> omega
  | j + 1, x, y => by rw [bt_succ, or_half, bt_or j, ← bt_succ, ← bt_succ]
theorem bt_xor : ∀ (j : Nat) (x y : Int), bt j (Builtin.bitXor x y) = (bt j x ^^ bt j y)
  | 0, x, y => by
    have := kbt_halves x y
    rw [bitXor_and]
    simp only [bt, Int.pow_zero, Int.ediv_one]
    by_cases hx : x % 2 = 1 <;> by_cases hy : y % 2 = 1 <;> simp only [hx, hy, and_true, and_false, if_true, if_false, decide_true, decide_false, Bool.xor_true, Bool.xor_false, Bool.not_true, Bool.not_false, decide_eq_true_eq, decide_eq_false_iff_not] at this ⊢ <;> omega
  | j + 1, x, y => by rw [bt_succ, xor_half, bt_xor j, ← bt_succ, ← bt_succ]
/-- within k places and a sign -/
noncomputable def Ins : Nat → Int → Prop
  | 0, x => x = 0 ∨ x = -1
  | k + 1, x => Ins k (x / 2)
theorem pr_ins (x : Int) : PR x ↔ Ins 7 x := by
  unfold PR
  simp only [Ins]
  omega
theorem ins_and : ∀ (k : Nat) (x y : Int), Ins k x → Ins k y → Ins k (Builtin.bitAnd x y)
  | 0, x, y, hx, hy => by
    rcases hx with rfl | rfl <;> rcases hy with rfl | rfl <;> (show _ = (0 : Int) ∨ _ = (-1 : Int)) <;> decide +kernel
  | k + 1, x, y, hx, hy => by
    show Ins k _
    rw [and_half]
    exact ins_and k _ _ hx hy
theorem ins_or : ∀ (k : Nat) (x y : Int), Ins k x → Ins k y → Ins k (Builtin.bitOr x y)
  | 0, x, y, hx, hy => by
    rcases hx with rfl | rfl <;> rcases hy with rfl | rfl <;> (show _ = (0 : Int) ∨ _ = (-1 : Int)) <;> decide +kernel
  | k + 1, x, y, hx, hy => by
    show Ins k _
    rw [or_half]
    exact ins_or k _ _ hx hy
theorem ins_xor : ∀ (k : Nat) (x y : Int), Ins k x → Ins k y → Ins k (Builtin.bitXor x y)
  | 0, x, y, hx, hy => by
    rcases hx with rfl | rfl <;> rcases hy with rfl | rfl <;> (show _ = (0 : Int) ∨ _ = (-1 : Int)) <;> decide +kernel
  | k + 1, x, y, hx, hy => by
    show Ins k _
    rw [xor_half]
    exact ins_xor k _ _ hx hy
theorem bits_of {S : Int → Int → Bool} {ns : List Int} {sz x : Int} : ∀ (k : Nat), (∀ j, j < k → S (onesV ns j) sz = bt j x) → bitsV S ns sz k = x % 2 ^ k
  | 0, _ => by simp [bitsV]
  | k + 1, h => by
    unfold bitsV
    rw [bits_of k fun j hj => h j (by omega), h k (by omega)]
    have h1 := Int.emod_add_mul_ediv x (2 ^ k)
    have h2 := Int.emod_nonneg x (Int.ne_of_gt (kbt_pos k))
    have h3 := Int.emod_lt_of_pos x (kbt_pos k)
    have h4 := Int.emod_add_mul_ediv (x / 2 ^ k) 2
    have h5 : (2 : Int) ^ (k + 1) = 2 ^ k * 2 := Int.pow_succ 2 k
    unfold bt
    by_cases hb : x / 2 ^ k % 2 = 1
    · rw [decide_eq_true hb, if_pos rfl]
      refine ((kbt_unique (q := x / 2 ^ k / 2) (kbt_pos (k + 1)) ?_ (by have := kbt_pos k; omega) (by omega)).2).symm
      rw [h5, Int.mul_assoc]
      generalize hz : x / 2 ^ k / 2 = z at *
      rw [show 2 ^ k * (2 * z) = (2 : Int) ^ k * (x / 2 ^ k) - 2 ^ k from by rw [← h4, hb, Int.mul_add]; omega]
      omega
    · have hb' : x / 2 ^ k % 2 = 0 := by omega
      rw [decide_eq_false hb]
      simp only [Bool.false_eq_true, if_false]
      refine ((kbt_unique (q := x / 2 ^ k / 2) (kbt_pos (k + 1)) ?_ h2 (by have := kbt_pos k; omega)).2).symm
      rw [h5, Int.mul_assoc]
      generalize hz : x / 2 ^ k / 2 = z at *
      rw [show 2 ^ k * (2 * z) = (2 : Int) ^ k * (x / 2 ^ k) from by rw [← h4, hb']; simp]
      omega
theorem due_of {S : Int → Int → Bool} {ns : List Int} {i : Nat} {x : Int} (hx : Ins 7 x) (h : ∀ j, j < 8 → S (onesV ns j) (1 + (i : Int)) = bt j x) : x = dueV S ns i := by
  have := (pr_ins x).mpr hx
  unfold PR at this
  unfold dueV
  rw [bits_of 8 h]
  unfold wrapV
  split <;> omega
end Mine

-- part P6
namespace Mine
open PySem PySem.W PyProof.Rows
noncomputable def cnt : List Bool → Nat
  | [] => 0
  | true :: r => cnt r + 1
  | false :: r => cnt r
theorem ones_cnt (j : Nat) : ∀ ns : List Int, onesV ns j = (cnt (ns.map (bt j)) : Int)
  | [] => rfl
  | x :: r => by
    have := ones_cnt j r
    unfold onesV at this ⊢
    rw [List.filter_cons, bitB_bt, List.map_cons]
    cases h : bt j x <;> simp [cnt, this]
/-- the folded road at one place -/
noncomputable def laidTB (J B : Bool → Bool → Bool) (x : Bool) : Bool → List Bool → List Bool
  | p, [] => [B p x]
  | p, n :: r => J n (B p x) :: laidTB J B x n r
noncomputable def laidB (J B : Bool → Bool → Bool) (ns : List Bool) (x : Bool) : List Bool := match ns with
  | [] => []
  | n :: r => J n x :: laidTB J B x n r
section
variable {J B : Int → Int → Int} {J' B' : Bool → Bool → Bool} (hJ : ∀ j x y, bt j (J x y) = J' (bt j x) (bt j y)) (hB : ∀ j x y, bt j (B x y) = B' (bt j x) (bt j y)) (iJ : ∀ x y, Ins 7 x → Ins 7 y → Ins 7 (J x y)) (iB : ∀ x y, Ins 7 x → Ins 7 y → Ins 7 (B x y))
include hJ hB in
theorem laidT_bt (j : Nat) (x : Int) : ∀ (r : List Int) (p : Int), (laidT J B x p r).map (bt j) = laidTB J' B' (bt j x) (bt j p) (r.map (bt j))
  | [], p => by simp only [laidT, laidTB, List.map, hB]
  | n :: r, p => by simp only [laidT, laidTB, List.map, hB, hJ, laidT_bt j x r n]
include hJ hB in
theorem laid_bt (j : Nat) (x : Int) (l : List Int) : (laid J B l x).map (bt j) = laidB J' B' (l.map (bt j)) (bt j x) := by
  cases l with
  | nil => rfl
  | cons n r => simp only [laid, laidB, List.map, hJ, laidT_bt hJ hB]
include hJ hB in
theorem fold_bt (j : Nat) : ∀ (xs l : List Int), (xs.foldl (laid J B) l).map (bt j) = (xs.map (bt j)).foldl (laidB J' B') (l.map (bt j))
  | [], l => rfl
  | x :: xs, l => by rw [List.foldl_cons, fold_bt j xs, laid_bt hJ hB, List.map_cons, List.foldl_cons]
include iJ iB in
theorem laidT_ins (x : Int) (hx : Ins 7 x) : ∀ (r : List Int) (p : Int), Ins 7 p → (∀ y ∈ r, Ins 7 y) → ∀ y ∈ laidT J B x p r, Ins 7 y
  | [], p, hp, _, y, hy => by
    rw [laidT] at hy
    rw [List.mem_singleton.mp hy]; exact iB _ _ hp hx
  | n :: r, p, hp, hr, y, hy => by
    rw [laidT] at hy
    rcases List.mem_cons.mp hy with rfl | hy
    · exact iJ _ _ (hr n (.head _)) (iB _ _ hp hx)
    · exact laidT_ins x hx r n (hr n (.head _)) (fun y h => hr y (.tail _ h)) y hy
include iJ iB in
theorem fold_ins : ∀ (xs l : List Int), (∀ y ∈ xs, Ins 7 y) → (∀ y ∈ l, Ins 7 y) → ∀ y ∈ xs.foldl (laid J B) l, Ins 7 y
  | [], l, _, hl => hl
  | x :: xs, l, hx, hl => by
    rw [List.foldl_cons]
    refine fold_ins xs _ (fun y h => hx y (.tail _ h)) fun y hy => ?_
    cases l with
    | nil => exact nomatch hy
    | cons n r =>
      unfold laid at hy
      rcases List.mem_cons.mp hy with rfl | hy
      · exact iJ _ _ (hl n (.head _)) (hx x (.head _))
      · exact laidT_ins iJ iB x (hx x (.head _)) r n (hl n (.head _)) (fun y h => hl y (.tail _ h)) y hy
include hJ hB iJ iB in
theorem fold_due {S : Int → Int → Bool} {ns : List Int} (h0 : 0 < ns.length) (hsm : ∀ x ∈ ns, PR x)
    (hS : ∀ bs : List Bool, bs.length = ns.length → bs.tail.foldl (laidB J' B') [bs.headD false] = (List.range ns.length).map fun (i : Nat) => S (cnt bs : Int) (1 + (i : Int))) :
    foldV J B ns = (List.range ns.length).map (dueV S ns) := by
  have hs : ∀ x ∈ ns, Ins 7 x := fun x hx => (pr_ins x).mp (hsm x hx)
  have hb : ∀ j, (foldV J B ns).map (bt j) = (List.range ns.length).map fun (i : Nat) => S (onesV ns j) (1 + (i : Int)) := fun j => by
    rw [ones_cnt, ← hS (ns.map (bt j)) (by rw [List.length_map])]
    cases ns with
    | nil => simp at h0
    | cons a r =>
      unfold foldV
      rw [List.tail_cons, List.headD_cons, List.map_cons, List.tail_cons, List.headD_cons, fold_bt hJ hB]
      rfl
  have hl : (foldV J B ns).length = ns.length := by
    have := congrArg List.length (hb 0)
    simpa using this
  have hi : ∀ y ∈ foldV J B ns, Ins 7 y := by
    cases ns with
    | nil => simp at h0
    | cons a r => exact fold_ins iJ iB r [a] (fun y h => hs y (.tail _ h)) (fun y h => by rw [List.mem_singleton.mp h]; exact hs a (.head _))
  refine List.ext_getElem (by rw [hl, List.length_map, List.length_range]) fun i h1 h2 => ?_
  rw [List.getElem_map, List.getElem_range]
  refine due_of (hi _ (List.getElem_mem h1)) fun j _ => ?_
  have := congrArg (fun l => l[i]?) (hb j)
  simp only [List.getElem?_map, List.getElem?_eq_getElem h1, List.getElem?_range (show i < ns.length from hl ▸ h1), Option.map_some, Option.some.injEq] at this
  exact this.symm
end
theorem all_len {n : Nat} {P : List Bool → Prop} (h2 : 2 ≤ n) (h4 : n ≤ 4) (p2 : n = 2 → ∀ a b, P [a, b]) (p3 : n = 3 → ∀ a b c, P [a, b, c]) (p4 : n = 4 → ∀ a b c d, P [a, b, c, d]) : ∀ bs : List Bool, bs.length = n → P bs := by
  intro bs hb
  match bs, hb with
  | [a, b], e => exact p2 e.symm a b
  | [a, b, c], e => exact p3 e.symm a b c
  | [a, b, c, d], e => exact p4 e.symm a b c d
  | [], e => simp at e; omega
  | [a], e => simp at e; omega
  | a :: b :: c :: d :: f :: r, e => simp at e; omega
theorem fold_oa {ns : List Int} (h2 : 2 ≤ ns.length) (h4 : ns.length ≤ 4) (hsm : ∀ x ∈ ns, PR x) : foldV Builtin.bitOr Builtin.bitAnd ns = (List.range ns.length).map (dueV (fun x y => decide (x ≥ y)) ns) :=
  fold_due (fun j => bt_or j) (fun j => bt_and j) (ins_or 7) (ins_and 7) (by omega) hsm
    (all_len h2 h4 (fun e => by rw [e]; decide +kernel) (fun e => by rw [e]; decide +kernel) (fun e => by rw [e]; decide +kernel))
theorem fold_ao {ns : List Int} (h2 : 2 ≤ ns.length) (h4 : ns.length ≤ 4) (hsm : ∀ x ∈ ns, PR x) : foldV Builtin.bitAnd Builtin.bitOr ns = (List.range ns.length).map (dueV (fun x y => decide ((ns.length : Int) - x < y)) ns) :=
  fold_due (fun j => bt_and j) (fun j => bt_or j) (ins_and 7) (ins_or 7) (by omega) hsm
    (all_len h2 h4 (fun e => by rw [e]; decide +kernel) (fun e => by rw [e]; decide +kernel) (fun e => by rw [e]; decide +kernel))
theorem fold_xa {ns : List Int} (h2 : 2 ≤ ns.length) (h4 : ns.length ≤ 4) (hsm : ∀ x ∈ ns, PR x) : foldV Builtin.bitXor Builtin.bitAnd ns = (List.range ns.length).map (dueV (fun x y => decide (Builtin.bitAnd x y = y)) ns) :=
  fold_due (fun j => bt_xor j) (fun j => bt_and j) (ins_xor 7) (ins_and 7) (by omega) hsm
    (all_len h2 h4 (fun e => by rw [e]; decide +kernel) (fun e => by rw [e]; decide +kernel) (fun e => by rw [e]; decide +kernel))
end Mine

-- part P7
namespace Mine
open PySem PySem.W PyProof.Rows
theorem bt_ext : ∀ (n : Nat) (x y : Int), x.natAbs + y.natAbs ≤ n → (∀ j, bt j x = bt j y) → x = y
  | 0, x, y, hn, _ => by omega
  | n + 1, x, y, hn, h => by
    have h0 := h 0
    simp only [bt, Int.pow_zero, Int.ediv_one, decide_eq_decide] at h0
    by_cases hx : (x = 0 ∨ x = -1) ∧ (y = 0 ∨ y = -1)
    · omega
    · have := bt_ext n (x / 2) (y / 2) (by omega) fun j => by rw [← bt_succ, ← bt_succ]; exact h (j + 1)
      omega
theorem bext {x y : Int} (h : ∀ j, bt j x = bt j y) : x = y := bt_ext _ x y (Nat.le_refl _) h
theorem roads_oa {ns : List Int} (h2 : 2 ≤ ns.length) (h4 : ns.length ≤ 4) : foldV Builtin.bitOr Builtin.bitAnd ns = pickedV Builtin.bitOr Builtin.bitAnd ns :=
  roads (fun x y z => bext fun j => by simp only [bt_or, Bool.or_assoc]) (fun x y z => bext fun j => by simp only [bt_or, bt_and]; cases bt j x <;> cases bt j y <;> cases bt j z <;> rfl) h2 h4
theorem roads_ao {ns : List Int} (h2 : 2 ≤ ns.length) (h4 : ns.length ≤ 4) : foldV Builtin.bitAnd Builtin.bitOr ns = pickedV Builtin.bitAnd Builtin.bitOr ns :=
  roads (fun x y z => bext fun j => by simp only [bt_and, Bool.and_assoc]) (fun x y z => bext fun j => by simp only [bt_or, bt_and]; cases bt j x <;> cases bt j y <;> cases bt j z <;> rfl) h2 h4
theorem roads_xa {ns : List Int} (h2 : 2 ≤ ns.length) (h4 : ns.length ≤ 4) : foldV Builtin.bitXor Builtin.bitAnd ns = pickedV Builtin.bitXor Builtin.bitAnd ns :=
  roads (fun x y z => bext fun j => by simp only [bt_xor, Bool.xor_assoc]) (fun x y z => bext fun j => by simp only [bt_xor, bt_and]; cases bt j x <;> cases bt j y <;> cases bt j z <;> rfl) h2 h4
/-- the plain law of two to four numbers of eight places -/
theorem law_ok {ns : List Int} (h2 : 2 ≤ ns.length) (h4 : ns.length ≤ 4) (hsm : ∀ x ∈ ns, PR x) : LawOk ns where
  am := law_am h2 h4
  prod i _ := law_prod h2 h4 _
  oa := ⟨fold_oa h2 h4 hsm, roads_oa h2 h4 ▸ fold_oa h2 h4 hsm⟩
  ao := ⟨fold_ao h2 h4 hsm, roads_ao h2 h4 ▸ fold_ao h2 h4 hsm⟩
  xa := ⟨fold_xa h2 h4 hsm, roads_xa h2 h4 ▸ fold_xa h2 h4 hsm⟩
  gl := ⟨fold_gl (by omega), (law_gl h2 h4).symm.trans (fold_gl (by omega))⟩
  ls := ⟨fold_ls h2 h4, (law_ls h2 h4).symm.trans (fold_ls h2 h4)⟩
end Mine

-- part C20
open PySem PySem.W PySem.Spec PySem.Calls PyProof.Rows Mine
set_option maxHeartbeats 8000000 in
theorem PySem.Challenge.cw_mr0061_01_holds : PySem.Challenge.rw_mr0061_01.Holds := by
  refine hd ?_
  w_strict (
    k_go0
    (all_goals try k_fold)
    k_with_none
    k_with "m call" => refine stop_here ?_
    k_steps
    unfold Stop
    rename_i hi _ hc63 _ _ h₁ X T K F hC2 N l0
    have hC2' : CodeHd _ 135 131 := hC2
    have hC1' : CodeHd _ 109 107 := codeHd
    k_dflt (refine tr_use (numbers_spec lifted hi (by omega)) K F X N T rfl F.keep (by decide +kernel) (by decide +kernel) ?_)
    intro r2 h2 tk2 F2 N2 k2 o2
    obtain ⟨xs, own, hO, hR, hx2, hx4, hxs⟩ := o2
    obtain ⟨a2, vs2, c2, rfl, hi2, hm2⟩ := rl_own h2 hR
    have hl2 : h2.IsList a2 vs2.toArray := ⟨_, (hO _ hm2).1, rfl, _, rfl⟩
    dsimp only
    k_steps
    unfold Stop
    have hL2 : a2 ≠ 107 ∧ a2 ≠ 131 := by
      have hz := (hO _ hm2).2
      have h1 := Heap.lt_size (N (131, tabObj #[]) (.head _)).1
      have h2 := Heap.lt_size (N (107, tabObj #[]) (.tail _ (.head _))).1
      dsimp only at hz h1 h2
      exact ⟨Nat.ne_of_gt (Nat.lt_of_lt_of_le h2 hz), Nat.ne_of_gt (Nat.lt_of_lt_of_le h1 hz)⟩
    have hlh : (hideAll h2 [107, 131]).IsList a2 vs2.toArray := ⟨_, hideAll_get _ (hO _ hm2).1 (fun q => by
      rcases List.mem_cons.mp q with q | q
      · exact hL2.1 q
      · exact hL2.2 (List.mem_singleton.mp q)), rfl, _, rfl⟩
    refine agree_spec hlh hi2 hx2 hx4 hxs (law_ok hx2 hx4 hxs) _ _ _ _ _ _ _ _ _ _ _ _ _ _ _ _ _ K F2 X T hC1' hC2' (fun q hq => ?_) rfl (fun q o e => of_hideAll _ e) (hideAll_none _ (.head _)) (hideAll_none _ (.tail _ (.head _))) (by decide +kernel) (by decide +kernel) ?_
    · rcases List.mem_cons.mp hq with rfl | hq
      · exact N2 _ (.tail _ (.head _))
      · rw [List.mem_singleton.mp hq]
        exact N2 _ (.head _)
    intro r3 h3 tk3 F3 ⟨hr3, g1, g2⟩
    subst hr3
    dsimp only
    refine ⟨?_, g1, g2, trivial⟩
    clear N N2 F F2
    k_with_none
    k_steps)
