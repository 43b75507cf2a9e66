import PyProof.Rows.All
import PyProof.ListStr
import KE.BitLaws
import Open.Split
import OpenK.KInvM
import KE.KIsBytes
import Wide.FinOn
import OpenK.AllK
import Wide.All
import Lean
import PySem.Challenge.RW_ar0011_01
set_option Elab.async false
set_option maxRecDepth 100000
set_option genSizeOfSpec false
set_option tactic.hygienic false
set_option bootstrap.genMatcherCode false
open PySem PySem.W PySem.Calls PySem.Spec PyProof.Rows
namespace Fb
theorem ff {p : Prop} (h : false = true) : p := Bool.noConfusion h
theorem nf {P : Prop} (h : False) : P := h.elim
theorem nn {α : Type} {l : α} {G : Prop} (h : none = some l) : G := nomatch h
theorem bcn {p : Prop} (h : ¬p -> False) : p := Classical.byContradiction h
theorem n40 {n : Nat} (h : n <= 1000000) : (n : Int).natAbs < 2 ^ 40 := Nat.lt_of_le_of_lt h (by decide)
theorem i40 {x : Int} (h : 0 <= x) (h' : x <= 1000000) : x.natAbs < 2 ^ 40 := by
  obtain ⟨n, rfl⟩ := Int.eq_ofNat_of_zero_le h
  exact n40 (Int.ofNat_le.mp h')
theorem lE (a b : Nat) : max (a : Int) (b : Int) = ((max a b : Nat) : Int) := by
  rcases Nat.le_total a b with h | h
  . rw [Nat.max_eq_right h, Int.max_eq_right (Int.ofNat_le.mpr h)]
  . rw [Nat.max_eq_left h, Int.max_eq_left (Int.ofNat_le.mpr h)]
theorem le_sub_add {a b c : Nat} (h : a <= b) : a <= b - c + c := by
  rcases Nat.le_total c b with q | q
  . rw [Nat.sub_add_cancel q]; exact h
  . exact Nat.le_trans h (Nat.le_trans q (Nat.le_add_left _ _))
end Fb
namespace Fb
noncomputable def okC : Code -> Bool
  | .builtin id _ => !Builtin.Bytes.decodersThatHold.contains id
  | _ => true
noncomputable def Clean (l : List (Code × Pos)) : Prop := ∀ x ∈ l, okC x.1 = true
noncomputable def wpN {α : Type} (M : Model) (A : Around) (t : Sem α) (Q : α -> Shared -> Prop) (E : Value -> Shared -> Prop) (s : Shared) : Prop :=
  ∀ Γ p, Γ.In A -> okC Γ.code = true -> Clean Γ.below -> Sem.wp M Γ t (fun a _ s' => Q a s') (fun e _ s' => E e s') p s
noncomputable def bQ (M : Model) (A : Around) (c : Code) (R : Result -> Shared -> Prop) (s : Shared) : Prop :=
  ∀ Γ p, Γ.code = c -> Γ.Below A -> Clean Γ.below -> wpCode M Γ R p s
section
variable {α β : Type} {M : Model} {A : Around} {E : Value -> Shared -> Prop} {s : Shared}
theorem aB {t : Sem α} {Q : α -> Shared -> Prop} (h : wpAny M A t Q E s) : wpN M A t Q E s := fun Γ p hΓ _ _ => h Γ p hΓ
theorem aC {a : α} {Q : α -> Shared -> Prop} (h : Q a s) : wpN M A (pure a) Q E s := aB (wpAny_pure h)
theorem aD {t : Sem α} {Q Q' : α -> Shared -> Prop} {E' : Value -> Shared -> Prop} (h : wpN M A t Q E s) (hQ : ∀ a s, Q a s -> Q' a s) (hE : ∀ e s, E e s -> E' e s) : wpN M A t Q' E' s :=
  fun Γ p hΓ h1 h2 => Sem.wp_mono M Γ t (fun a _ s => hQ a s) (fun e _ s => hE e s) p s (h Γ p hΓ h1 h2)
theorem aA {m : Sem α} {f : α -> Sem β} {Q : β -> Shared -> Prop} (h : wpN M A m (fun a s' => wpN M A (f a) Q E s') E s) : wpN M A (m >>= f) Q E s := fun Γ p hΓ h1 h2 => by
  rw [Sem.wp_bind']
  exact Sem.wp_mono M Γ m (fun a p' s' h' => h' Γ p' hΓ h1 h2) (fun _ _ _ h' => h') p s (h Γ p hΓ h1 h2)
theorem wpN_onRaise {m : Sem α} {k : Value -> Sem Unit} {Q : α -> Shared -> Prop} (h : wpN M A m Q (fun e s' => wpN M A (k e) (fun _ s'' => E e s'') E s') s) : wpN M A (m.onRaise k) Q E s := fun Γ p hΓ h1 h2 => by
  rw [Sem.wp_onRaise]
  exact Sem.wp_mono M Γ m (fun _ _ _ h' => h') (fun e p' s' h' => h' Γ p' hΓ h1 h2) p s (h Γ p hΓ h1 h2)
theorem wpN_attempt {m : Sem α} {Q : Except Value α -> Shared -> Prop} (h : wpN M A m (fun a => Q (.ok a)) (fun e => Q (.error e)) s) : wpN M A m.attempt Q E s := fun Γ p hΓ h1 h2 => by
  rw [Sem.wp_attempt]; exact h Γ p hΓ h1 h2
theorem aI {vs : List Value} {m : Sem α} {Q : α -> Shared -> Prop} (h : wpN M A m Q E s) : wpN M A (holding vs m) Q E s := fun Γ p hΓ h1 h2 => by
  rw [Sem.wp_holding]; exact h Γ p hΓ h1 h2
theorem aM {m : Sem α} {f : α -> Sem β} {Q : β -> Shared -> Prop} (h : wpAny M A m (fun a s' => wpN M A (f a) Q E s') E s) : wpN M A (m >>= f) Q E s := aA (aB h)
theorem aK {pos : Pos} {Q : Unit -> Shared -> Prop} (h : Q () s) : wpN M A (standAt pos) Q E s := aB (wpAny_standAt h)
theorem wpN_rule {tag : String} {Q : Unit -> Shared -> Prop} (h : Q () s) : wpN M A (rule tag) Q E s := aB (wpAny_rule h)
theorem codeN_mono {c : Code} {R R' : Result -> Shared -> Prop} (h : bQ M A c R s) (hR : ∀ r s, R r s -> R' r s) : bQ M A c R' s := fun Γ p hc hΓ h2 => wpCode_mono hR (h Γ p hc hΓ h2)
theorem pA {Γ : PySem.Ctx} {p : Pos} (h1 : okC Γ.code = true) (h2 : Clean Γ.below) : Clean ((Γ.code, p) :: Γ.below) := by
  intro x hx
  rcases List.mem_cons.mp hx with rfl | hx
  . exact h1
  . exact h2 x hx
theorem wpN_run {c : Code} {h : Option Value} {Q : Flow -> Shared -> Prop} (hc : bQ M (A.mark h) c (fun r s' => match r with | .ok f => Q f s' | .error e => E e s') s) (hnb : h ≠ some byPass := by intro x; cases x) : wpN M A (run c h) Q E s :=
  fun Γ p hΓ h1 h2 => by rw [Sem.wp_run]; exact hc _ p rfl (hΓ.enter c h p hnb) (pA h1 h2)
theorem wpN_runValue {c : Code} {Q : Value -> Shared -> Prop} (hc : bQ M A c (fun r s' => match r with | .ok (.ret v) => Q v s' | .ok _ => False | .error e => E e s') s) : wpN M A (runValue c) Q E s :=
  fun Γ p hΓ h1 h2 => by rw [Sem.wp_runValue]; exact hc _ p rfl (hΓ.enter c none p (by intro x; exact nn x)) (pA h1 h2)
theorem cX {f : Value} {pos : List Value} {kw : List (Str × Value)} {Q : Value -> Shared -> Prop} (hc : bQ M A (.call f ⟨pos, kw⟩) (fun r s' => match r with | .ok (.ret v) => Q v s' | .ok _ => False | .error e => E e s') s) : wpN M A (call f pos kw) Q E s := wpN_runValue hc
theorem bB {c : Code} {R : Result -> Shared -> Prop} (hk : okC c = true)
    (h : wpN M (A.under c) (M.den c) (fun fin s' => match fin with | .done f => R (.ok f) s' | .again c' => c'.quiet = true /\ bQ M A c' R s') (fun e s' => R (.error e) s') s) : bQ M A c R s := fun Γ p hc hΓ h2 => by
  rw [wpCode_iff_wp, hc]
  refine Sem.wp_mono M Γ _ (fun fin p' s' h' => ?_) (fun _ _ _ h' => h') p s (h Γ p (hc ▸ hΓ.in) (hc ▸ hk) h2)
  cases fin with
  | done f => exact h'
  | again c' => exact ⟨h'.1, h'.2 (Γ.goto c') p' rfl (hΓ.goto c') h2⟩
theorem codeN_loop {c : Code} {R : Result -> Shared -> Prop} (hk : okC c = true) (hq : c.quiet = true) (I : Nat -> Shared -> Prop)
    (turn : ∀ n s, I n s -> wpN M (A.under c) (M.den c) (fun fin s' => match fin with | .done f => R (.ok f) s' | .again c' => c' = c /\ ∃ m, m < n /\ I m s') (fun e s' => R (.error e) s') s) (n : Nat) (h : I n s) : bQ M A c R s := by
  induction n using Nat.strongRecOn generalizing s with
  | ind n ih =>
    refine bB hk (aD (turn n s h) (fun fin s' hf => ?_) fun _ _ h' => h')
    cases fin with
    | done f => exact hf
    | again c' => obtain ⟨rfl, m, hm, hI⟩ := hf; exact ⟨hq, ih m hm hI⟩
theorem wpN_stack {Q : List (Code × Pos) -> Shared -> Prop} (h : ∀ st : List (Code × Pos), (∀ g, A.guards = some g -> guardsOf st = g) -> Clean st -> Q st s) : wpN M A stack Q E s := fun Γ p hΓ h1 h2 => by
  exact h _ (fun g hg => by rw [guardsOf_cons]; exact hΓ.2.2.2.1 g hg) (pA h1 h2)
end
section
variable {M : Model} {A : Around} {E : Value -> Shared -> Prop} {s : Shared}
theorem pJ {α : Type} {c : Prop} [Decidable c] {a b : Sem α} {Q : α -> Shared -> Prop} (hc : c) (h : wpN M A a Q E s) : wpN M A (if c then a else b) Q E s := by rw [if_pos hc]; exact h
theorem aT {α : Type} {c : Prop} [Decidable c] {a b : Sem α} {Q : α -> Shared -> Prop} (hc : ¬ c) (h : wpN M A b Q E s) : wpN M A (if c then a else b) Q E s := by rw [if_neg hc]; exact h
theorem wpAny_ifT {α : Type} {c : Prop} [Decidable c] {a b : Sem α} {Q : α -> Shared -> Prop} (hc : c) (h : wpAny M A a Q E s) : wpAny M A (if c then a else b) Q E s := by rw [if_pos hc]; exact h
theorem cZ {α : Type} {c : Prop} [Decidable c] {a b : Sem α} {Q : α -> Shared -> Prop} (hc : ¬ c) (h : wpAny M A b Q E s) : wpAny M A (if c then a else b) Q E s := by rw [if_neg hc]; exact h
theorem any_clean {st : List (Code × Pos)} {f : Code × Pos -> Bool} (hst : guardsOf st = []) (hcl : Clean st) (hf : ∀ c p, c.isGuard = false -> okC c = true -> f (c, p) = false) : st.any f = false := by
  rw [List.any_eq_false]
  rintro ⟨c, p⟩ hm
  have hng : c.isGuard = false := by
    induction hq : c.isGuard using Bool.casesOn with
    | false => rfl
    | true =>
      have : c ∈ guardsOf st := List.mem_filter.mpr ⟨List.mem_map.mpr ⟨(c, p), hm, rfl⟩, hq⟩
      rw [hst] at this; exact nomatch this
  rw [hf c p hng (hcl (c, p) hm)]; exact Bool.false_ne_true
theorem noG {id x : String} {args : Args} (h1 : (Code.builtin id args).isGuard = false) (hx : guardIds.contains x = true) : ¬ id = x := by
  rintro rfl
  have h1' : guardIds.contains id = false := h1
  rw [hx] at h1'; exact Bool.noConfusion h1'
theorem exportedN {a : Addr} {Q : Bool -> Shared -> Prop} (hg : A.guards = some []) (h : Q false s) : wpN M A (Builtin.Bytes.exported (.ref a)) Q E s := by
  refine aA (wpN_stack fun st hst hcl => aC ?_)
  rw [any_clean (hst [] hg) hcl ?_]
  . exact h
  . intro c p h1 h2
    cases c with
    | builtin id args =>
      delta Builtin.Bytes.exported.match_1
      dsimp only
      delta Builtin.Bytes.exported._sparseCasesOn_1
      dsimp only
      refine Eq.trans (dif_neg (α := Bool) (c := id = "bytearray.__contains__") (noG h1 (by decide +kernel))) ?_
      refine Eq.trans (dif_neg (α := Bool) (c := id = "bytearray.__mod__") (noG h1 (by decide +kernel))) ?_
      refine Eq.trans (dif_neg (α := Bool) (c := id = "bytearray.__rmod__") (noG h1 (by decide +kernel))) ?_
      refine Eq.trans (dif_neg (α := Bool) (c := id = "_struct.pack_into.held") (noG h1 (by decide +kernel))) ?_
      refine Eq.trans (dif_neg (α := Bool) (c := id = "bytearray.find.held") (noG h1 (by decide +kernel))) ?_
      obtain ⟨pos, kw⟩ := args
      induction pos using List.casesOn with
      | nil => rfl
      | cons v t =>
        have h2' : (!Builtin.Bytes.decodersThatHold.contains id) = true := h2
        show (Builtin.Bytes.sameRef v (.ref a) && Builtin.Bytes.decodersThatHold.contains id) = false
        rw [show Builtin.Bytes.decodersThatHold.contains id = false by cases q : Builtin.Bytes.decodersThatHold.contains id <;> first | rfl | (rw [q] at h2'; exact Bool.noConfusion h2'), Bool.and_false]
    | _ => rfl
end
end Fb
namespace Fb.N
section
variable {M : Model} {A : Around} {E : Value -> Shared -> Prop} {s : Shared} {env : Env}
theorem operate {vs : List Value} {m : Sem Value} {Q : Value -> Shared -> Prop} (h : wpN M A m Q E s) : wpN M A (PySem.operate vs m) Q E s := fun Γ p hΓ h1 h2 => by
  rw [Sem.wp_operate]; exact h Γ p hΓ h1 h2
theorem rel {vs ks : List Value} {Q : Unit -> Shared -> Prop} (h : Q () s) : wpN M A (release vs ks) Q E s := aB (wpAny_release' h)
theorem BinOp {l op r pos} {Q : Value -> Shared -> Prop} (h : wpN M A (eval l env) (fun a sG => wpN M A (eval r env) (fun b sH => wpN M A (binaryOp op a b) Q E sH) E sG) E s) : wpN M A (eval (.BinOp l op r pos) env) Q E s := by
  rw [eval_BinOp]
  refine aA (aD h (fun a sG hG => aA (aI (aD hG (fun b sH hH => ?_) fun _ _ x => x))) fun _ _ x => x)
  exact aA (aK (operate hH))
theorem UnaryOp {op x pos} {Q : Value -> Shared -> Prop} (h : wpN M A (eval x env) (fun v sG => wpN M A (unaryOp op v) Q E sG) E s) : wpN M A (eval (.UnaryOp op x pos) env) Q E s := by
  rw [eval_UnaryOp]
  exact aA (aD h (fun v sG hG => aA (aK (aI hG))) fun _ _ x => x)
theorem Compare1 {l op r pos} {Q : Value -> Shared -> Prop} (h : wpN M A (eval l env) (fun a sG => wpN M A (eval r env) (fun b sH => wpN M A (compareOp op a b) Q E sH) E sG) E s) (hm : behindInMarks op r = false) : wpN M A (eval (.Compare l [op] [r] pos) env) Q E s := by
  rw [eval_Compare1, markedBehindIn_of_false hm]
  refine aA (aD h (fun a sG hG => aA (aI (aD hG (fun b sH hH => ?_) fun _ _ x => x))) fun _ _ x => x)
  exact aA (aK (operate hH))
theorem And {eH eG rest pos} {Q : Value -> Shared -> Prop} (h : wpN M A (eval eH env) (fun v sG => wpN M A (truthy v) (fun c sH => if c then wpN M A (eval (.BoolOp .And (eG :: rest) pos) env) Q E sH else Q v sH) E sG) E s) : wpN M A (eval (.BoolOp .And (eH :: eG :: rest) pos) env) Q E s := by
  show wpN M A (eval eH env >>= fun v => standAt pos >>= fun _ => holding [v] (truthy v) >>= fun c => match BoolOp.And, c with
    | .And, false | .Or, true => pure v
    | _, _ => boolOp pos .And (eval eG env :: evalEach rest env)) Q E s
  refine aA (aD h (fun v sG hG => aA (aK (aA (aI (aD hG (fun c sH hH => ?_) fun _ _ x => x))))) fun _ _ x => x)
  induction c using Bool.casesOn with
  | false => exact aC hH
  | true => exact hH
theorem One {op e pos} {Q : Value -> Shared -> Prop} (h : wpN M A (eval e env) Q E s) : wpN M A (eval (.BoolOp op [e] pos) env) Q E s := h
theorem IfExp {test body orelse pos} {Q : Value -> Shared -> Prop} (h : wpN M A (isTrue test env (eval test env)) (fun c sH => if c then wpN M A (eval body env) Q E sH else wpN M A (eval orelse env) Q E sH) E s) : wpN M A (eval (.IfExp test body orelse pos) env) Q E s := by
  rw [eval_IfExp]
  refine aA (aD h (fun c sH hH => ?_) fun _ _ x => x)
  induction c using Bool.casesOn <;> exact hH
theorem Subscript {value slice pos} {Q : Value -> Shared -> Prop} (h : wpN M A (eval value env) (fun o sG => wpN M A (eval slice env) (fun i sH => wpN M A (subscriptTail value slice o i) Q E sH) E sG) E s) : wpN M A (eval (.Subscript value slice pos) env) Q E s := by
  rw [eval_Subscript]
  exact aA (aD h (fun o sG hG => aA (aI (aD hG (fun i sH hH => aA (aK hH)) fun _ _ x => x))) fun _ _ x => x)
theorem Tuple {elts : List Expr} {k : Nat} {pos : Pos} {Q : Value -> Shared -> Prop} (h : wpN M A (spliced (backTo pos (starEach elts env))) (fun vs sG => wpN M A (newTuple vs) Q E sG) E s) : wpN M A (eval (.Tuple elts k pos) env) Q E s := by
  show wpN M A (standAt pos >>= fun _ => spliced (backTo pos (starEach elts env)) >>= fun vs => newTuple vs) Q E s
  exact aA (aK (aA h))
theorem List {elts : List Expr} {pos : Pos} {Q : Value -> Shared -> Prop} (h : wpN M A (spliced (backTo pos (starEach elts env))) (fun vs sG => wpN M A (newList vs) Q E sG) E s) : wpN M A (eval (.List elts pos) env) Q E s := by
  show wpN M A (standAt pos >>= fun _ => spliced (backTo pos (starEach elts env)) >>= fun vs => newList vs) Q E s
  exact aA (aK (aA h))
theorem nil {Q : _root_.List Value -> Shared -> Prop} (h : Q [] s) : wpN M A (spliced []) Q E s := aC h
theorem cons {x : Sem Value} {rest : _root_.List (Bool × Sem Value)} {Q : _root_.List Value -> Shared -> Prop} (h : wpN M A x (fun v sG => wpN M A (spliced rest) (fun vs sH => Q (v :: vs) sH) E sG) E s) : wpN M A (spliced ((false, x) :: rest)) Q E s := by
  rw [spliced]
  refine aA (aD h (fun v sG hG => ?_) fun _ _ x => x)
  simp only [Bool.false_eq_true, if_false]
  exact aA (aC (aA (aI (aD hG (fun vs sH hH => aC hH) fun _ _ x => x))))
theorem evalArgs {f : Value} {x : Sem Value} {rest : _root_.List (Bool × Sem Value)} {Q : Args -> Shared -> Prop} (h : wpN M A (spliced ((false, x) :: rest)) (fun vs s' => Q ⟨vs, []⟩ s') E s) : wpN M A (PySem.evalArgs f true ((false, x) :: rest) []) Q E s := by
  unfold PySem.evalArgs
  show wpN M A (spliced ((false, x) :: rest) >>= _) Q E s
  refine aA (aD h (fun vs s' h' => ?_) fun _ _ x => x)
  refine aI ?_
  exact aA (aC (aA (aC (aC h'))))
theorem callWith {f : Value} {first : _root_.List Value} {pos : Pos} {P : Heap -> Prop} {args : _root_.List (Bool × Sem Value)} {keywords : _root_.List (Option Str × Sem Value)} {Q : Value -> Shared -> Prop} (hplain : (args.any (·.1) || keywords.any (·.1.isNone)) = false)
    (hk : ∀ h, P h -> ∃ k, (k = Keeper.frame \/ k = Keeper.machine \/ k = Keeper.boundFrame) /\ Looks M h (keeperOf f) k)
    (h : wpN M A (PySem.evalArgs f true args keywords) (fun a sG => P sG.heap /\ wpN M A (call f (first ++ a.pos) a.kw) Q E sG) E s) : wpN M A (PySem.callWith pos f first args keywords) Q E s := by
  unfold PySem.callWith
  refine aA (aI (aD h (fun a sG hG => aA (aK ?_)) fun _ _ x => x))
  refine bcn fun nG => ?_; obtain ⟨k, hk', L⟩ := hk _ hG.1
  refine nG ?_; rw [hplain]
  refine aM (L.here ?_)
  have tail : ∀ {t : Sem Value}, wpN M A t Q E sG -> wpN M A (t >>= fun r => holding [r] point >>= fun _ => pure r) Q E sG :=
    fun ht => aA (aD ht (fun r sH hr => aA (aI (aB (wpAny_point (aC hr))))) fun _ _ x => x)
  have marked (mk : Value) : wpN M A (callMarked mk f (first ++ a.pos) a.kw) Q E sG := by
    unfold callMarked
    exact fun Γ p hΓ h1 h2 => by rw [Sem.wp_keep]; exact hG.2 Γ p hΓ h1 h2
  have ite2 : ∀ {c : Prop} [Decidable c] {a b : Sem Value}, wpN M A a Q E sG -> wpN M A b Q E sG -> wpN M A (if c then a else b) Q E sG := fun {c} _ {a b} ha hb => by
    induction Decidable.em c using Or.casesOn with
    | inl hc => rw [if_pos hc]; exact ha
    | inr hc => rw [if_neg hc]; exact hb
  rcases hk' with rfl | rfl | rfl <;> dsimp only
  . exact (@ite2 _ _ _ _ (tail hG.2) (tail (marked _)))
  . exact tail hG.2
  . exact (@ite2 _ _ _ _ (tail hG.2) (tail (marked _)))
theorem tNot {x pos whole} {Q : Bool -> Shared -> Prop} (h : wpN M A (isTrue x env (eval x env)) (fun c s' => Q (!c) s') E s) : wpN M A (isTrue (.UnaryOp .Not x pos) env whole) Q E s := by
  show wpN M A (isTrue x env (eval x env) >>= fun c => pure (!c)) Q E s
  exact aA (aD h (fun c s' h' => aC h') fun _ _ x => x)
theorem tAnd {x rest pos whole} {Q : Bool -> Shared -> Prop} (h : wpN M A (isTrue x env (eval x env)) (fun c s' => if c then wpN M A (isTrue (.BoolOp .And rest pos) env whole) Q E s' else Q false s') E s) : wpN M A (isTrue (.BoolOp .And (x :: rest) pos) env whole) Q E s := by
  show wpN M A (isTrue x env (eval x env) >>= fun c => match BoolOp.And, c with
    | .And, false => pure false
    | .Or, true => pure true
    | _, _ => allTrue .And rest env) Q E s
  refine aA (aD h (fun c s' h' => ?_) fun _ _ x => x)
  induction c using Bool.casesOn with
  | false => exact aC h'
  | true => exact h'
theorem tAndNil {pos whole} {Q : Bool -> Shared -> Prop} (h : Q true s) : wpN M A (isTrue (.BoolOp .And [] pos) env whole) Q E s := aC (a := true) h
theorem tOr {x rest pos whole} {Q : Bool -> Shared -> Prop} (h : wpN M A (isTrue x env (eval x env)) (fun c s' => if c then Q true s' else wpN M A (isTrue (.BoolOp .Or rest pos) env whole) Q E s') E s) : wpN M A (isTrue (.BoolOp .Or (x :: rest) pos) env whole) Q E s := by
  show wpN M A (isTrue x env (eval x env) >>= fun c => match BoolOp.Or, c with
    | .And, false => pure false
    | .Or, true => pure true
    | _, _ => allTrue .Or rest env) Q E s
  refine aA (aD h (fun c s' h' => ?_) fun _ _ x => x)
  induction c using Bool.casesOn with
  | false => exact h'
  | true => exact aC h'
theorem tOrNil {pos whole} {Q : Bool -> Shared -> Prop} (h : Q false s) : wpN M A (isTrue (.BoolOp .Or [] pos) env whole) Q E s := aC (a := false) h
theorem tPlain {e : Expr} {whole : Sem Value} {Q : Bool -> Shared -> Prop} (h : wpN M A whole (fun v sG => wpN M A (truthy v) Q E sG) E s) (he : isTrue e env whole = (do let v <- whole; standAt e.pos; holding [v] (truthy v))) : wpN M A (isTrue e env whole) Q E s := by
  rw [he]
  exact aA (aD h (fun v sG hG => aA (aK (aI hG))) fun _ _ x => x)
theorem tCompare1 {l op r pos whole} {Q : Bool -> Shared -> Prop} (h : wpN M A (eval l env) (fun a sG => wpN M A (eval r env) (fun b sH => wpN M A (compareOp op a b) (fun c sJ => wpN M A (truthy c) Q E sJ) E sH) E sG) E s) (hm : behindInMarks op r = false) : wpN M A (isTrue (.Compare l [op] [r] pos) env whole) Q E s := by
  rw [isTrue_Compare1, markedBehindIn_of_false hm]
  refine aA (aD h (fun a sG hG => aA (aI (aD hG (fun b sH hH => ?_) fun _ _ x => x))) fun _ _ x => x)
  refine aA (aK (aA (operate (aD hH (fun c sJ hJ => ?_) fun _ _ x => x))))
  exact aI hJ
theorem tChain {l opG opH ops rG rH rs pos whole} {Q : Bool -> Shared -> Prop} (h : wpN M A (eval l env) (fun a sG => wpN M A (testChain pos a (opG :: opH :: ops) (eval rG env :: eval rH env :: evalEach rs env)) Q E sG) E s)
    (hm : lastMarks (opG :: opH :: ops) (rG :: rH :: rs) = false) : wpN M A (isTrue (.Compare l (opG :: opH :: ops) (rG :: rH :: rs) pos) env whole) Q E s := by
  show wpN M A (eval l env >>= fun a => testChain pos a (opG :: opH :: ops) (markedEach (opG :: opH :: ops) (rG :: rH :: rs) (evalEach (rG :: rH :: rs) env))) Q E s
  rw [markedEach_of_false _ _ _ hm]
  exact aA h
theorem tLink {pos : Pos} {a : Value} {op op' : CmpOp} {ops : _root_.List CmpOp} {r r' : Sem Value} {rs : _root_.List (Sem Value)} {Q : Bool -> Shared -> Prop}
    (h : wpN M A r (fun b sG => wpN M A (compareOp op a b) (fun c sH => wpN M A (truthy c) (fun t sJ => if t then wpN M A (testChain pos b (op' :: ops) (r' :: rs)) Q E sJ else Q false sJ) E sH) E sG) E s) : wpN M A (testChain pos a (op :: op' :: ops) (r :: r' :: rs)) Q E s := by
  show wpN M A (holding [a] r >>= fun rv => standAt pos >>= fun _ => holding [a, rv] (compareOp op a rv) >>= fun c => release [a, rv] [c] >>= fun _ => holding [c, rv] (truthy c) >>= fun t => if t = true then testChain pos rv (op' :: ops) (r' :: rs) else pure false) Q E s
  refine aA (aI (aD h (fun b sG hG => aA (aK (aA (aI (aD hG (fun c sH hH => aA (rel (aA (aI (aD hH (fun t sJ hJ => ?_) fun _ _ x => x))))) fun _ _ x => x))))) fun _ _ x => x))
  induction t using Bool.casesOn with
  | true => exact hJ
  | false => exact aC hJ
theorem tLast {pos : Pos} {a : Value} {op : CmpOp} {r : Sem Value} {Q : Bool -> Shared -> Prop} (h : wpN M A r (fun b sG => wpN M A (compareOp op a b) (fun c sH => wpN M A (truthy c) Q E sH) E sG) E s) : wpN M A (testChain pos a [op] [r]) Q E s := by
  show wpN M A (holding [a] r >>= fun rv => standAt pos >>= fun _ => PySem.operate [a, rv] (compareOp op a rv) >>= fun c => holding [c] (truthy c)) Q E s
  exact aA (aI (aD h (fun b sG hG => aA (aK (aA (operate (aD hG (fun c sH hH => aI hH) fun _ _ x => x))))) fun _ _ x => x))
theorem eNil {Q : Flow -> Shared -> Prop} (h : Q .next s) : wpN M A (execs [] env) Q E s := aB (wpAny_execs_nil h)
theorem eCons {st rest} {Q : Flow -> Shared -> Prop} (h : wpN M A (exec st env) (fun f s' => match f with | .next => wpN M A (execs rest env) Q E s' | f => Q f s') E s) : wpN M A (execs (st :: rest) env) Q E s := by
  rw [execs_cons]
  refine aA (aD h (fun f s' h' => ?_) fun _ _ x => x)
  cases f <;> first | exact h' | exact aC h'
theorem bindN {x : Str} {v : Value} {Q : Unit -> Shared -> Prop} (h : wpN M A (storeName env x v) Q E s) : wpN M A (bindName env x v) Q E s := fun Γ p hΓ g1 g2 => by
  rw [Sem.wp_bindName]; exact h Γ p hΓ g1 g2
theorem eName {x pos' value pos} {Q : Flow -> Shared -> Prop} (h : wpN M A (eval value env) (fun v sG => wpN M A (storeName env x v) (fun _ => Q .next) E sG) E s) (hs : swapsWith value (some (.Name x pos')) pos.line env = pure false) : wpN M A (exec (.Assign [.Name x pos'] value pos) env) Q E s := by
  rw [exec_Assign_Name env x pos' value pos hs]
  exact aA (aK (aA (aD h (fun v sG hG => aA (aK (aA (bindN (aD hG (fun _ _ q => aC q) fun _ _ x => x))))) fun _ _ x => x)))
theorem eRet {e pos} {Q : Flow -> Shared -> Prop} (h : wpN M A (eval e env) (fun v => Q (.ret v)) E s) : wpN M A (exec (.Return (some e) pos) env) Q E s := by
  rw [exec_Return_some]
  exact aA (aK (aA (aD h (fun v sG hG => aC hG) fun _ _ x => x)))
theorem eIf {test body orelse pos} {Q : Flow -> Shared -> Prop} (h : wpN M A (isTrue test env (eval test env)) (fun b sH => if b then wpN M A (execs body env) Q E sH else wpN M A (execs orelse env) Q E sH) E s) : wpN M A (exec (.If test body orelse pos) env) Q E s := by
  rw [exec_If]
  refine aA (aK (aA (aD h (fun b sH hH => ?_) fun _ _ x => x)))
  induction b using Bool.casesOn <;> exact hH
theorem eAug {x pos' op value pos} {Q : Flow -> Shared -> Prop} (h : wpN M A (loadName env x) (fun old sG => wpN M A (eval value env) (fun v sH => wpN M A (inplaceOp op old v) (fun r sJ => wpN M A (storeName env x r) (fun _ => Q .next) E sJ) E sH) E sG) E s) : wpN M A (exec (.AugAssign (.Name x pos') op value pos) env) Q E s := fun Γ p hΓ g1 g2 => by
  simp only [exec_AugAssign_Name, Sem.wp_bind', Sem.wp_holding, Sem.wp_cmd_standAt, Sem.wp_operate, Sem.wp_bindName, Sem.wp_pure']
  exact Sem.wp_mono M Γ _ (fun old pG sG hG => Sem.wp_mono M Γ _ (fun v _ sH hH => Sem.wp_mono M Γ _ (fun r _ sJ hJ => hJ Γ _ hΓ g1 g2) (fun _ _ _ h' => h') _ _ (hH Γ _ hΓ g1 g2)) (fun _ _ _ h' => h') _ _ (hG Γ pG hΓ g1 g2)) (fun _ _ _ h' => h') _ _ (h Γ _ hΓ g1 g2)
theorem eAttr {o attr pos' value pos} {Q : Flow -> Shared -> Prop} (h : wpN M A (eval value env) (fun v sG => wpN M A (eval o env) (fun ov sH => wpN M A (setAttr ov attr v) (fun _ => Q .next) E sH) E sG) E s) (hs : swapsWith value (some (.Attribute o attr pos')) pos.line env = pure false) : wpN M A (exec (.Assign [.Attribute o attr pos'] value pos) env) Q E s := fun Γ p hΓ g1 g2 => by
  simp only [plainObj_exec_Assign_Attribute o attr pos' value pos hs, assign_Attribute, Sem.wp_bind', Sem.wp_holding, Sem.wp_cmd_standAt, Sem.wp_release, Sem.wp_pure']
  exact Sem.wp_mono M Γ _ (fun v pG sG hG => Sem.wp_mono M Γ _ (fun ov _ sH hH => hH Γ _ hΓ g1 g2) (fun _ _ _ h' => h') _ _ (hG Γ pG hΓ g1 g2)) (fun _ _ _ h' => h') _ _ (h Γ _ hΓ g1 g2)
theorem eSub {o i pos' value pos} {Q : Flow -> Shared -> Prop} (h : wpN M A (eval value env) (fun v sG => wpN M A (eval o env) (fun ov sH => wpN M A (eval i env) (fun iv sJ => wpN M A (setItem ov iv v) (fun _ => Q .next) E sJ) E sH) E sG) E s) (hs : swapsWith value (some (.Subscript o i pos')) pos.line env = pure false) : wpN M A (exec (.Assign [.Subscript o i pos'] value pos) env) Q E s := fun Γ p hΓ g1 g2 => by
  simp only [exec_Assign_Subscript o i pos' value pos hs, assign_Subscript, Sem.wp_bind', Sem.wp_holding, Sem.wp_cmd_standAt, Sem.wp_release, Sem.wp_pure']
  exact Sem.wp_mono M Γ _ (fun v pG sG hG => Sem.wp_mono M Γ _ (fun ov pH sH hH => Sem.wp_mono M Γ _ (fun iv _ sJ hJ => hJ Γ _ hΓ g1 g2) (fun _ _ _ h' => h') _ _ (hH Γ pH hΓ g1 g2)) (fun _ _ _ h' => h') _ _ (hG Γ pG hΓ g1 g2)) (fun _ _ _ h' => h') _ _ (h Γ _ hΓ g1 g2)
end
end Fb.N
namespace Fb.N
noncomputable abbrev No : Value -> Shared -> Prop := fun _ _ => False
section
variable {prog : Program} {w : World} {A : Around} {E : Value -> Shared -> Prop} {s : Shared} {env : Env}
theorem weak {α : Type} {t : Sem α} {Q : α -> Shared -> Prop} {M : Model} (h : wpN M A t Q No s) : wpN M A t Q E s := aD h (fun _ _ q => q) fun _ _ q => q.elim
theorem ownN {c : Code} {Q : Flow -> Shared -> Prop} {M : Model} (hc : bQ M A c (fun r s' => match r with | .ok f => Q f s' | .error _ => False) s) : wpN M A (runOwn c env none) Q E s := by
  unfold runOwn
  exact weak (wpN_onRaise (aD (wpN_run (h := none) (E := No) (Q := Q) (codeN_mono hc fun r s' q => by cases r <;> exact q)) (fun _ _ q => q) fun _ _ q => q.elim))
theorem noted {α : Type} {m : Sem α} {k : Value -> Sem Unit} {Q : α -> Shared -> Prop} {M : Model} (h : wpN M A m Q No s) : wpN M A (m.onRaise k) Q E s := weak (wpN_onRaise (aD h (fun _ _ q => q) fun _ _ q => q.elim))
theorem eExpr {e pos} {Q : Flow -> Shared -> Prop} (h : wpN (model prog w) A (eval e env) (fun _ => Q .next) E s) (hi : interactive env = false) (hs : swapsWith e none pos.line env = pure false) : wpN (model prog w) A (exec (.Expr e pos) env) Q E s := by
  rw [exec_Expr env e pos hi hs]
  exact aA (aK (aA (aD h (fun v s' h' => aB (wpAny_dropValue h')) fun _ _ x => x)))
theorem eWhile {test body pos} {Q : Flow -> Shared -> Prop} (h : bQ (model prog w) A (.whileLoop test body [] env) (fun r s' => match r with | .ok f => Q f s' | .error _ => False) s) : wpN (model prog w) A (exec (.While test body [] pos) env) Q E s := by
  rw [exec_While]; exact aA (aK (ownN h))
theorem eFor {target iter body pos} {Q : Flow -> Shared -> Prop} (h : wpN (model prog w) A (eval iter env) (fun x sG => wpN (model prog w) A (pyIter x) (fun it sH => bQ (model prog w) A (.forLoop target it body [] env) (fun r s' => match r with | .ok f => Q f s' | .error _ => False) sH) E sG) E s)
    (hs : ∀ x, foldedSetIterable iter env x = pure x) : wpN (model prog w) A (exec (.For target iter body [] pos) env) Q E s := by
  rw [exec_For]
  refine aA (aK (aA (aD h (fun x sG hG => ?_) fun _ _ x => x)))
  rw [hs x]
  exact aA (aC (aA (aK (aA (aI (aD hG (fun it sH hH => ownN hH) fun _ _ x => x))))))
theorem whileN {test body} {R : Result -> Shared -> Prop} (I : Nat -> Shared -> Prop)
    (turn : ∀ n s, I n s -> wpN (model prog w) A (isTrue test env (eval test env)) (fun b sH =>
        if b then wpN (model prog w) A (execs body env) (fun f sJ => match f with
            | .next | .cont => ∃ m, m < n /\ I m sJ
            | .brk => R (.ok .next) sJ
            | .ret v => R (.ok (.ret v)) sJ) No sH
        else R (.ok .next) sH) No s) (n : Nat) (h : I n s) : bQ (model prog w) A (.whileLoop test body [] env) R s := by
  refine codeN_loop rfl rfl I (fun n s hI => ?_) n h
  show wpN _ A ((whileTurn test body [] env).onRaise _) _ _ s
  refine noted ?_
  simp only [whileTurn]
  refine aA (aD (turn n s hI) (fun b sH hH => ?_) fun _ _ h' => h')
  induction b using Bool.casesOn with
  | false =>
    simp only [Bool.false_eq_true, if_false] at hH ⊢
    exact aA (eNil (aC hH))
  | true =>
    simp only [if_true] at hH ⊢
    refine aA (aD hH (fun f sJ hJ => ?_) fun _ _ h' => h')
    induction f using Flow.casesOn with
    | next => exact aC ⟨rfl, hJ⟩
    | cont => exact aC ⟨rfl, hJ⟩
    | brk => exact aC hJ
    | ret v => exact aC hJ
theorem forN {target it body} {R : Result -> Shared -> Prop} (I : Nat -> Shared -> Prop)
    (turn : ∀ n s, I n s -> wpN (model prog w) A (pyNext it) (fun r sG => match r with
      | none => R (.ok .next) sG
      | some v => wpN (model prog w) A (assign target env v) (fun _ sH => wpN (model prog w) A (execs body env) (fun f sJ => match f with
          | .next | .cont => ∃ m, m < n /\ I m sJ
          | .brk => R (.ok .next) sJ
          | .ret v => R (.ok (.ret v)) sJ) No sH) No sG) No s)
    (n : Nat) (h : I n s) (ht : ∀ v, letOwnedTupleGo target it v = pure ()) : bQ (model prog w) A (.forLoop target it body [] env) R s := by
  induction n using Nat.strongRecOn generalizing s with
  | ind n ih =>
    refine bB rfl ?_
    show wpN _ A ((forTurn target it body [] env).onRaise _) _ _ s
    refine noted ?_
    simp only [forTurn]
    refine aA (aK (aA (noted (aD (turn n s h) (fun r sG hG => ?_) fun _ _ h' => h'))))
    induction r using Option.casesOn with
    | none =>
      refine aC ⟨rfl, ?_⟩
      refine bB rfl ?_
      show wpN _ A ((execs [] env).onRaise _ >>= fun f => pure (Fin.done f)) _ _ _
      exact aA (noted (eNil (aC hG)))
    | some v =>
      dsimp only at hG ⊢
      rw [ht v]
      refine aA (aC (aA (aD hG (fun _ sH hH => aA (aD hH (fun f sJ hJ => ?_) fun _ _ h' => h')) fun _ _ h' => h')))
      induction f using Flow.casesOn with
      | next => obtain ⟨m, hm, hI⟩ := hJ; exact aC ⟨rfl, ih m hm hI⟩
      | cont => obtain ⟨m, hm, hI⟩ := hJ; exact aC ⟨rfl, ih m hm hI⟩
      | brk => exact aC hJ
      | ret v => exact aC hJ
theorem funcN {body} {R : Result -> Shared -> Prop} (h : wpN (model prog w) (A.deeper env) (execs body env) (fun f s' => R (.ok (.ret (match f with | .ret v => v | _ => .none))) s') No s) : bQ (model prog w) A (.func body env) R s := by
  refine bB rfl ?_
  show wpN _ (A.deeper env) (point >>= fun _ => (execs body env).onRaise (leaving env) >>= fun f => match f with | .ret v => ret v | _ => ret .none) _ _ s
  refine aA (aB (wpAny_point (aA (noted (aD h (fun f s' h' => ?_) fun _ _ h' => h')))))
  cases f <;> exact aC h'
end
end Fb.N
namespace Fb.N
section
variable {prog : Program} {w : World} {A : Around} {E : Value -> Shared -> Prop} {s : Shared} {env : Env}
theorem callFn {a : Addr} {args : Args} {o : Obj} {fd : FuncData} {body : _root_.List Stmt} {R : Result -> Shared -> Prop} (hroom : A.depth < recursionLimit) (ho : s.heap.get? a = some o)
    (hd' : o.data = .func fd) (hco : fd.scope.isCoroutine = false) (hgen : fd.scope.isGenerator = false) (hbody : fd.body = .stmts body) (hcd : s.heap.CodeRec fd.code fd.qualname)
    (h : wpN (model prog w) A.in1 (bindArgs fd args) (fun binds sG =>
      wpN (model prog w) A.in1 (newFunctionEnv fd.scope fd.globals fd.closure binds (fd.qualname ++ ".<locals>.") (some a) fd.code none fd.builtins)
        (fun env sH => sH.heap.NoLimit /\ bQ (model prog w) A (.func body env) R sH) No sG) No s) :
    bQ (model prog w) A (.call (.ref a) args) R s := by
  refine bB rfl ?_
  show wpN _ A.in1 (callAny (.ref a) args) _ _ s
  simp only [callAny]
  refine aM (wpAny_load ho ?_)
  refine bcn fun nG => ?_; obtain ⟨c, oc, vs, tq, hc, hoc, hdc, hq⟩ := hcd
  refine nG ?_; simp only [hd', callFunction, hco, hgen, hbody, hc]
  rw [hc] at h
  refine aA (m := field (.ref c) 1) (aB (wpAny_field hoc hdc hq (aA (aC ?_))))
  refine weak (aA (aD h (fun binds sG hG => aA (aD hG (fun env sH hH => ?_) fun _ _ h' => h')) fun _ _ h' => h'))
  exact aA (aB (wpAny_enterFrame hH.1 hroom (aC (And.intro rfl hH.2))))
theorem eTuple {elts k tpos value pos} {Q : Flow -> Shared -> Prop} {M : Model} (h : wpN M A (eval value env) (fun v sG => wpN M A (assign (.Tuple elts k tpos) env v) (fun _ => Q .next) E sG) E s)
    (hs : swapsWithSole [.Tuple elts k tpos] value pos.line env = pure false) (hw : swappedStores [.Tuple elts k tpos] value env = pure none) : wpN M A (exec (.Assign [.Tuple elts k tpos] value pos) env) Q E s := by
  rw [exec_Assign]
  refine aA (aK ?_)
  rw [hs]
  refine aA (aC ?_)
  refine aT (by decide) ?_
  refine aA (aD h (fun v sG hG => ?_) fun _ _ x => x)
  rw [hw]
  refine aA (aC ?_)
  show wpN M A (assignAll v [assign (.Tuple elts k tpos) env] >>= fun _ => pure Flow.next) Q E sG
  exact aA (aD (show wpN M A (assignAll v [assign (.Tuple elts k tpos) env]) (fun _ => Q .next) E sG from hG) (fun _ _ x => aC x) fun _ _ x => x)
theorem compStart {elt target iter scope pos it acc} {R : Result -> Shared -> Prop}
    (h0 : bQ (model prog w) A (.compLoop (.ListComp elt [⟨target, iter, [], 0⟩] scope pos) 0 it acc env) R s)
    (h : wpN (model prog w) A (pyIter it) (fun it' s' => bQ (model prog w) A (.compLoop (.ListComp elt [⟨target, iter, [], 0⟩] scope pos) 0 it' acc env) R s') No s) :
    bQ (model prog w) A (.compStart (.ListComp elt [⟨target, iter, [], 0⟩] scope pos) 0 it acc env) R s := by
  refine bB rfl ?_
  show wpN _ _ ((PySem.compStart (.ListComp elt [⟨target, iter, [], 0⟩] scope pos) 0 it acc env).onRaise _) _ _ s
  refine noted ?_
  unfold PySem.compStart
  show wpN _ _ (ask >>= _) _ _ s
  refine aA (aB (wpAny_askSetting ?_))
  split
  . first
      | exact aA (aC (aC (And.intro rfl h0)))
      | exact aC (And.intro rfl h0)
  . first
      | exact aA (wpN_rule (aA (aK (aA (aD h (fun it' s' h' => aC (And.intro rfl h')) fun _ _ x => x)))))
      | (refine aA (wpN_rule ?_); show wpN _ _ (standAt iter.pos >>= _) _ _ s; exact aA (aK (aA (aD h (fun it' s' h' => aC (And.intro rfl h')) fun _ _ x => x))))
theorem compLoop {elt target iter : Expr} {scope : Scope} {pos : Pos} {it acc : Value} {R : Result -> Shared -> Prop} (I : Nat -> Shared -> Prop)
    (turn : ∀ n s, I n s -> wpN (model prog w) A (pyNext it) (fun r sG => match r with
      | none => R (.ok .next) sG
      | some v => wpN (model prog w) A (assign target env v) (fun _ sH => wpN (model prog w) A (eval elt env) (fun x sJ =>
          wpN (model prog w) A (call (.builtin "list.append") [acc, x]) (fun _ sW => ∃ m, m < n /\ I m sW) No sJ) No sH) No sG) No s)
    (n : Nat) (h : I n s) (ht : ∀ v, letOwnedTupleGo target it v = pure ()) :
    bQ (model prog w) A (.compLoop (.ListComp elt [⟨target, iter, [], 0⟩] scope pos) 0 it acc env) R s := by
  refine codeN_loop rfl rfl I (fun n s hI => ?_) n h
  show wpN _ _ ((compTurn (.ListComp elt [⟨target, iter, [], 0⟩] scope pos) 0 it acc env).onRaise _) _ _ s
  refine noted ?_
  rw [compTurn_list1]
  refine aA (aK (aA (aD (turn n s hI) (fun r sG hG => ?_) fun _ _ h' => h')))
  induction r using Option.casesOn with
  | none => exact aC hG
  | some v =>
    dsimp only at hG ⊢
    rw [ht v]
    refine aA (aC ?_)
    exact aA (aD hG (fun _ sH hH => aA (aA (aD hH (fun x sJ hJ => aA (aD hJ
      (fun _ sW hW => aC (aC ⟨rfl, hW⟩)) fun _ _ h' => h')) fun _ _ h' => h'))) fun _ _ h' => h')
theorem standIf {α : Type} {c : Prop} [Decidable c] {pos : Pos} {k : PUnit -> Sem α} {Q : α -> Shared -> Prop} {M : Model} (h : wpN M A (k ()) Q E s) : wpN M A (if c then (standAt pos >>= k) else k ()) Q E s := by
  split
  . exact aA (aK h)
  . exact h
noncomputable def cPost (M : Model) (A : Around) (E : Value -> Shared -> Prop) (use : Option (Value -> Sem Unit)) (Q : Value -> Shared -> Prop) (acc : Value) (C : Addr) (s' : Shared) : Prop :=
  match use with
  | none => ∃ m, s'.heap.Ns C m /\ ∀ h', Heap.SameBut C s'.heap h' -> Q acc { s' with heap := h' }
  | some u => wpN M A (u acc) (fun _ s'' => ∃ m, s''.heap.Ns C m /\ ∀ h', Heap.SameBut C s''.heap h' -> Q .none { s'' with heap := h' }) E s'
theorem comp {e : Expr} {scope : Scope} {pos : Pos} {newAcc first : Sem Value} {g : Comprehension} {gs : _root_.List Comprehension} {cl : _root_.List (Str × Addr)} {use : Option (Value -> Sem Unit)} {Q : Value -> Shared -> Prop} {M : Model}
    (hcl : clausesOf e = g :: gs) (hs : ∀ x, foldedSetIterable g.iter env x = pure x) (hclos : closureFor scope env = pure cl)
    (hkind : scope.kind = .function) (hnames : ∀ x ∈ scope.names, x.2 = .local -> scope.names.lookup x.1 = some .local)
    (h : wpN M A first (fun x sG => wpN M A (pyIter x) (fun it sH => wpN M A newAcc (fun acc sJ =>
      wpN M A (newFunctionEnv scope env.globals cl [] env.qual none .none (some env)) (fun cenv sW =>
        bQ M A (.compStart e 0 it acc { cenv with scope := relabel scope env }) (fun r s' => match r with | .ok _ => cPost M A E use Q acc cenv.locals s' | .error _ => False) sW) E sJ) E sH) E sG) E s) :
    wpN M A (comprehension e scope env pos newAcc false first use) Q E s := by
  unfold comprehension
  rw [hclos, hcl]
  refine aA (aD h (fun x sG hG => aA (aK ?_)) fun _ _ h' => h')
  try dsimp only
  rw [hs x]
  refine aA (aC (aA (aI (aD hG (fun it sH hH => ?_) fun _ _ h' => h'))))
  refine standIf (aA (aD hH (fun acc sJ hJ => aA (aC (aA (aD hJ (fun cenv sW hW => ?_) fun _ _ h' => h')))) fun _ _ h' => h'))
  try dsimp only
  have hv : ∀ x ∈ (scope.names.filter fun x => (x.2 == .local || x.2 == .cell) && x.1 != (".0" : Str)).reverse, x.2 = .local -> Env.kindOf { cenv with scope := relabel scope env } x.1 = some .local :=
    fun x hx hl => lookup_relabel_local (hnames x (List.mem_filter.mp (List.mem_reverse.mp hx)).1 hl)
  have hv' : ∀ x ∈ (scope.names.filter fun x => (x.2 == .local || x.2 == .cell) && x.1 != (".0" : Str)).reverse.drop 1 ++ (scope.names.filter fun x => (x.2 == .local || x.2 == .cell) && x.1 != (".0" : Str)).reverse.take 1,
      x.2 = .local -> Env.kindOf { cenv with scope := relabel scope env } x.1 = some .local := fun x hx hl => by
    rcases List.mem_append.mp hx with h1 | h1
    . exact hv x (List.mem_of_mem_drop h1) hl
    . exact hv x (List.mem_of_mem_take h1) hl
  refine aI (aA (wpN_attempt (aI (wpN_run (codeN_mono hW fun r s' hr => ?_)))))
  induction r using Except.casesOn with
  | error x => exact hr.elim
  | ok f =>
    induction use using Option.casesOn with
    | none =>
      obtain ⟨m, hn, hr⟩ := hr
      exact aA (aI (aB (wpAny_comp_letGo (cenv := { cenv with scope := relabel scope env }) hkind _ s' m hv hn fun h' m' _ hs' => aC (hr h' hs'))))
    | some u =>
      refine aA (wpN_rule (aA (aI (aD hr (fun _ s'' hr' => ?_) fun _ _ h' => h'))))
      obtain ⟨m, hn, hr'⟩ := hr'
      exact aA (aB (wpAny_comp_letGo (cenv := { cenv with scope := relabel scope env }) hkind _ s'' m hv' hn fun h' m' _ hs' => aC (hr' h' hs')))
end
end Fb.N
namespace Fb.N
section
variable {prog : Program} {w : World} {A : Around} {E : Value -> Shared -> Prop} {s : Shared}
theorem builtinN {id : String} {args : Args} {b : Builtin} {R : Result -> Shared -> Prop} (hk : okC (.builtin id args) = true) (hb : entryFor table id = some b)
    (h : wpN (model prog w) (A.under (.builtin id args)) (b args) (fun fin s' => match fin with | .done f => R (.ok f) s' | .again c' => c'.quiet = true /\ bQ (model prog w) A c' R s') (fun e s' => R (.error e) s') s) :
    bQ (model prog w) A (.builtin id args) R s := by
  refine bB hk ?_
  show wpN _ _ (match entryFor table id with | some b => b args | none => unsupported ((withoutEnding? id "#data").getD id)) _ _ s
  rw [hb]; exact h
theorem callBuiltinN {id : String} {args : Args} {b : Builtin} {R : Result -> Shared -> Prop} (hk : okC (.builtin id args) = true) (hq : plainId id = true) (hb : entryFor table id = some b)
    (h : wpN (model prog w) A.in1 (checkBuiltinCall id args) (fun _ sG => wpN (model prog w) A.in1 (b args) (fun fin s' => match fin with | .done f => R (.ok f) s' | .again c' => c'.quiet = true /\ bQ (model prog w) A c' R s') (fun e s' => R (.error e) s') sG) (fun e s' => R (.error e) s') s) :
    bQ (model prog w) A (.call (.builtin id) args) R s := by
  refine bB rfl ?_
  show wpN _ A.in1 (checkBuiltinCall id args >>= fun _ => again (.builtin id args)) _ _ s
  exact aA (aD h (fun _ sG hG => aC ⟨plainId_quiet hq args, builtinN hk hb (by rw [Around.under_plainId hq args]; exact hG)⟩) fun _ _ x => x)
end
theorem mro_ba : mroOf (.type "bytearray") = pure [.type "bytearray", .type "object"] := by rw [mroOf_type]; kernel_rfl
theorem lookup_ba_new : typeLookup (.type "bytearray") "__new__" = pure (some (.builtin "bytearray.__new__")) := by rw [typeLookup_type, builtinLookup_eq_fast]; kernel_rfl
theorem slot_ba_init : Slot "bytearray" "__init__" "bytearray.__init__" :=
  .of (owner := "bytearray") (n := "__init__") (by rw [typeLookup_type, builtinLookup_eq_fast]; kernel_rfl) (by decide +kernel) (by decide +kernel) (by decide +kernel)
    (by first | exact .inl (by decide +kernel) | exact .inr (by decide +kernel)) (by rw [isSubtype_type]; kernel_rfl)
theorem called_ba : TypeCalled "bytearray" "bytearray.__new__" "bytearray.__init__" :=
  ⟨by decide +kernel, by decide +kernel, ⟨_, _, mro_ba⟩, madeBy_type mro_ba lookup_ba_new (by decide +kernel), by decide +kernel, by rw [isSubtype_type]; kernel_rfl, slot_ba_init⟩
theorem typeCall_ba (a : Value) : checkTypeCall "bytearray" ⟨[a], []⟩ = pure () := by kernel_rfl
theorem newCall_ba (a : Value) : checkBuiltinCall "bytearray.__new__" ⟨[.type "bytearray", a], []⟩ = pure () := by kernel_rfl
theorem entry_ba_new : entryFor table "bytearray.__new__" = some Builtin.«list.__new__» :=
  entryFor_alias (id' := "list.__new__") (by kernel_rfl) (by first | rfl | decide +kernel | (unfold String.splitOn; simp +decide [String.splitOnAux])) (by decide +kernel) (by kernel_rfl)
theorem entry_ba_init : entryFor table "bytearray.__init__" = some Builtin.«bytearray.__init__» := entryFor_of_tree (by kernel_rfl)
theorem plain_ba_new : plainId "bytearray.__new__" = true := by decide +kernel
theorem plain_ba_init : plainId "bytearray.__init__" = true := by decide +kernel
theorem owner_ba_new : ("bytearray.__new__".splitOn ".__new__").headD "" = "bytearray" := by simp +decide [String.splitOn, String.splitOnAux]
theorem sub_ba : isSubtype (.type "bytearray") (.type "bytearray") = pure true := by rw [isSubtype_type]; kernel_rfl
section
variable {prog : Program} {w : World} {A : Around} {E : Value -> Shared -> Prop} {s : Shared}
theorem code_ba_new (a : Value) {Q₁ : Value -> Shared -> Prop} (h : Q₁ (.ref s.heap.objs.size) { s with heap := s.heap.push { cls := .type "bytearray", data := .bytearray #[] } }) :
    codeAny (model prog w) A (.call (.builtin "bytearray.__new__") ⟨[.type "bytearray", a], []⟩) (wants Q₁ E) s := by
  refine codeAny_of_tree ?_
  show wpAny _ A.in1 (do checkBuiltinCall "bytearray.__new__" ⟨[.type "bytearray", a], []⟩; again (.builtin "bytearray.__new__" ⟨[.type "bytearray", a], []⟩)) _ _ s
  refine wpAny_bind (wpAny_of_eq (newCall_ba a) (wpAny_pure ⟨plainId_quiet plain_ba_new _, codeAny_builtin_stack entry_ba_new rfl fun p st => ?_⟩))
  rw [Around.under_plainId plain_ba_new _]
  have hsub := sub_ba
  have hown := owner_ba_new
  obtain ⟨hp, g, d, tk, os⟩ := s
  simp only [hown]
  wp_walk
  exact h
end
end Fb.N
namespace Fb.N
noncomputable abbrev bo (l : _root_.List UInt8) : Obj := ⟨.type "bytearray", none, .bytearray l.toArray 0, #[]⟩
theorem rel_ba : typeLookup (.type "bytearray") "__release_buffer__" = pure (some (.builtin "bytearray.__release_buffer__")) := by rw [typeLookup_type, builtinLookup_eq_fast]; kernel_rfl
theorem bind_ba (v : Value) : Builtin.Bytes.bindOptional "bytearray.__init__" "bytearray" ["source", "encoding", "errors"] [v] [] = pure [some v, none, none] := by kernel_rfl
section
variable {prog : Program} {w : World} {A : Around} {E : Value -> Shared -> Prop} {s : Shared}
theorem ownRel {a : Addr} {o : Obj} {M : Model} {Q : Bool -> Shared -> Prop} (e : s.heap.get? a = some o) (hc : o.cls = .type "bytearray") (h : Q false s) : wpAny M A (Builtin.Bytes.ownRelease (.ref a)) Q E s := by
  unfold Builtin.Bytes.ownRelease Builtin.Bytes.slotIsOwn
  refine wpAny_bind (wpAny_bind (wpAny_specialOf ⟨o, e, hc⟩ rel_ba ?_))
  dsimp only
  rw [show (!"bytearray.__release_buffer__".endsWith ("." ++ "__release_buffer__")) = false from by decide +kernel, if_neg Bool.false_ne_true]
  rw [show "bytearray.__release_buffer__".dropRight ("__release_buffer__".length + 1) = "bytearray" from by decide +kernel]
  exact wpAny_isInstance ⟨o, e, hc⟩ sub_ba (wpAny_pure h)
theorem writeBA {M : Model} {a : Addr} {l r : _root_.List UInt8} {f : Array UInt8 -> Array UInt8} {Q : Unit -> Shared -> Prop} (e : s.heap.get? a = some (bo l)) (hf : f l.toArray = r.toArray) (hsz : r.length <= sizeLine)
    (h : ∀ h', h'.get? a = some (bo r) -> Heap.SameBut a s.heap h' -> Q () { s with heap := h' }) : wpAny M A (Builtin.Bytes.write (.ref a) f) Q E s := by
  unfold Builtin.Bytes.write
  unfold updateBytearray
  refine wpAny_bind (wpAny_load e ?_)
  have e2 := Heap.get?_update_self (h := s.heap) (f := Obj.mapBytearray f) e (by rfl)
  have e3 : Obj.mapBytearray f (bo l) = bo r := by
    show (⟨.type "bytearray", none, .bytearray (f l.toArray) 0, #[]⟩ : Obj) = bo r
    rw [hf]
  rw [e3] at e2
  refine wpAny_bind (wpAny_update e (wpAny_lookBehind e2 ?_ (h _ e2 (Heap.SameBut.update ..))))
  exact if_neg (Nat.not_lt_of_le hsz)
theorem checkNone {id f which : String} : Builtin.Bytes.checkCodecArg id f which none = pure () := rfl
theorem initN {a : Addr} {n : Int} {t : Tok} {Q : Fin -> Shared -> Prop} (e : s.heap.get? a = some (bo [])) (hg : A.guards = some []) (h0 : 0 <= n) (h1 : n <= 1000000)
    (h : ∀ h', h'.get? a = some (bo (_root_.List.replicate n.toNat 0)) -> (∀ b o, b ≠ a -> s.heap.get? b = some o -> h'.get? b = some o) -> Q (.done (.ret .none)) { s with heap := h' }) :
    wpN (model prog w) A (Builtin.«bytearray.__init__» ⟨[.ref a, .int n t], []⟩) Q E s := by
  unfold Builtin.«bytearray.__init__»
  refine aM (ownRel e rfl ?_)
  refine aT Bool.false_ne_true ?_
  refine aA (aB (wpAny_of_eq (bind_ba _) ?_))
  dsimp only
  refine aM (wpAny_of_eq checkNone ?_)
  refine aM (wpAny_of_eq checkNone ?_)
  refine aA ?_
  unfold orM
  refine aA (exportedN hg ?_)
  unfold Builtin.Bytes.exportsOf
  refine aA (aM (wpAny_load e (aC ?_)))
  refine aC ?_
  refine aT (by decide) ?_
  refine aM (writeBA (r := []) e rfl (by decide) fun hG eH sbH => ?_)
  refine aM (wpAny_of_eq (a := none) rfl ?_)
  refine aT (by decide) ?_
  refine aA ?_
  refine aT (by decide) ?_
  refine aT (by decide) ?_
  refine aC ?_
  refine aM (wpAny_specialOf (T := "int") (typeIs_int _ _ _) int_index ?_)
  refine pJ (show (some (Value.builtin "int.__index__")).isSome = true from rfl) ?_
  refine aA (wpN_attempt (aB (wpAny_of_eq (a := n) rfl ?_)))
  dsimp only
  have f1 : (!Builtin.Bytes.fitsIndex n) = false := by simp [Builtin.Bytes.fitsIndex]; (exact ⟨by lia, by (exact Int.lt_of_le_of_lt (by assumption) (by decide))⟩)
  have f2 : (n == 2 ^ 63 - 1) = false := by simp; lia
  have f3 : Builtin.Bytes.tooLong n.toNat = false := by simp [Builtin.Bytes.tooLong, sizeLine_eq]; (exact Int.le_trans (by assumption) (by decide))
  refine aT (by rw [f1]; exact Bool.false_ne_true) ?_
  refine aT (by lia) ?_
  refine aT (by rw [f2]; exact Bool.false_ne_true) ?_
  refine aT (by rw [f3]; exact Bool.false_ne_true) ?_
  refine aM (wpAny_rule ?_)
  by_cases hp : n > 0
  . refine pJ hp ?_
    refine aM (writeBA (r := _root_.List.replicate n.toNat 0) eH (by simp) (by rw [sizeLine_eq]; simp; (exact Int.le_trans (by assumption) (by decide))) fun hH eG sbG => ?_)
    exact aC (h hH eG fun b o hb eo => (sbG.2 b hb).trans ((sbH.2 b hb).trans eo))
  . refine aT hp ?_
    have hz : n.toNat = 0 := by lia
    refine aC (h hG (by rw [hz]; exact eH) fun b o hb eo => (sbH.2 b hb).trans eo)
end
end Fb.N
namespace Fb.N
theorem owner_ba' : Manifest.owners.lookup (String.ofList ['y', 'a', 'r', 'r', 'a', 'e', 't', 'y', 'b'].reverse) = some Manifest.sig_bytearray := by kernel_rfl
theorem args_ba_init (a b : Value) : argsOk "bytearray.__init__" ⟨[a, b], []⟩ := by
  unfold argsOk; rw [signature?_of (id := "bytearray.__init__") (n := ['_', '_', 't', 'i', 'n', 'i', '_', '_']) (o := ['y', 'a', 'r', 'r', 'a', 'e', 't', 'y', 'b']) (by kernel_rfl) owner_ba']; kernel_rfl
section
variable {prog : Program} {w : World} {A : Around} {E : Value -> Shared -> Prop} {s : Shared}
theorem special {self : Value} {T : String} {name : Str} {id : String} {args : _root_.List Value} {kw : _root_.List (Str × Value)} {M : Model} {Q : Option Value -> Shared -> Prop} (hT : s.TypeIs self T) (h : Slot T name id)
    (hc : wpN M A (call (.builtin id) (self :: args) kw) (fun v => Q (some v)) E s) : wpN M A (callSpecial? self name args kw) Q E s := by
  simp only [callSpecial?]
  refine aM (wpAny_specialOf hT h.lookup ?_)
  simp only [h.bind]
  exact aI (aA (aC (aA (aD hc (fun v s' h' => aC h') fun _ _ h' => h'))))
theorem okB {id : String} {args : Args} (h : (!Builtin.Bytes.decodersThatHold.contains id) = true) : okC (.builtin id args) = true := h
theorem ctorN {a0 : Value} {Q : Value -> Shared -> Prop}
    (h : wpN (model prog w) A.in1.in1 (Builtin.«bytearray.__init__» ⟨[.ref s.heap.objs.size, a0], []⟩) (fun fin s' => fin = .done (.ret .none) /\ s'.TypeIs (.ref s.heap.objs.size) "bytearray" /\ Q (.ref s.heap.objs.size) s') No { s with heap := s.heap.push (bo []) }) :
    wpN (model prog w) A (call (.type "bytearray") [a0]) Q E s := by
  refine cX (bB rfl ?_)
  show wpN _ A.in1 (callAny (.type "bytearray") _) _ _ _
  refine aC ⟨Code.quiet_builtin _ (by decide +kernel), builtinN (okB (by decide +kernel)) F.entry_type_call ?_⟩
  rw [Around.under_plain (weight_type_call_type "bytearray" [a0] []) rfl]
  unfold Builtin.«type.__call__»
  dsimp only
  refine aT (by decide +kernel) ?_
  refine weak ?_
  refine aT (by rw [called_ba.canCreate]; exact Bool.false_ne_true) ?_
  refine aM (wpAny_of_eq (typeCall_ba _) ?_)
  refine aM (wpAny_of_eq mro_ba ?_)
  refine aT (by simp) ?_
  refine aM (wpAny_of_eq called_ba.made ?_)
  dsimp only
  refine aA (aC ?_)
  refine aA (aI (aB (wpAny_call (codeAny_mono (code_ba_new (Q₁ := fun obj sG => obj = .ref s.heap.objs.size /\ sG = { s with heap := s.heap.push (bo []) }) (E := No) a0 ⟨rfl, rfl⟩) fun r sG hr => ?_))))
  induction r using Except.casesOn with
  | error e => exact hr.elim
  | ok fl =>
    induction fl using Flow.casesOn with
    | ret obj =>
      obtain ⟨rfl, rfl⟩ : obj = .ref s.heap.objs.size /\ sG = { s with heap := s.heap.push (bo []) } := hr
      have hT : ({ s with heap := s.heap.push (bo []) } : Shared).TypeIs (.ref s.heap.objs.size) "bytearray" := ⟨_, Heap.get?_push_size _ rfl, rfl⟩
      refine aM (wpAny_isInstance hT sub_ba ?_)
      refine aT (by decide) ?_
      refine aA (aI (special hT slot_ba_init (cX (callBuiltinN (okB (by decide +kernel)) plain_ba_init entry_ba_init (aB (slot_ba_init.check _ _ _ _ _ _ _ _ hT (args_ba_init _ _) (aD h (fun fin s' hf => ?_) fun _ _ x => x.elim)))))))
      obtain rfl := hf.1; have hq := hf.2.2; clear hf
      dsimp only
      refine aT (by decide) ?_
      exact aC hq
    | _ => exact hr.elim
theorem ctorInt {n : Int} {t : Tok} {Q : Value -> Shared -> Prop} (hg : A.guards = some []) (h0 : 0 <= n) (h1 : n <= 1000000)
    (h : ∀ h', h'.get? s.heap.objs.size = some (bo (_root_.List.replicate n.toNat 0)) -> (∀ b o, s.heap.get? b = some o -> h'.get? b = some o) -> Q (.ref s.heap.objs.size) { s with heap := h' }) :
    wpN (model prog w) A (call (.type "bytearray") [.int n t]) Q E s := by
  refine ctorN (initN (Heap.get?_push_size _ rfl) hg h0 h1 fun h' e' k => ⟨rfl, ⟨_, e', rfl⟩, h h' e' fun b o e => k b o (Nat.ne_of_lt (Heap.lt_size e)) (Heap.get?_push_of_some _ e)⟩)
end
end Fb.N
namespace Fb.N
theorem bytes_no_index : typeLookup (.type "bytes") "__index__" = pure none := by rw [typeLookup_type, builtinLookup_eq_fast]; kernel_rfl
theorem bytes_buffer : typeLookup (.type "bytes") "__buffer__" = pure (some (.builtin "bytes.__buffer__")) := by rw [typeLookup_type, builtinLookup_eq_fast]; kernel_rfl
theorem bytes_no_rel : typeLookup (.type "bytes") "__release_buffer__" = pure none := by rw [typeLookup_type, builtinLookup_eq_fast]; kernel_rfl
section
variable {prog : Program} {w : World} {A : Around} {E : Value -> Shared -> Prop} {s : Shared}
theorem bufferBytes {id : String} {full : Bool} {b : Array UInt8} {t : Tok} {M : Model} {Q : Option (Array UInt8) -> Shared -> Prop} (h : Q (some b) s) : wpAny M A (Builtin.Bytes.buffer? id (.bytes b t) full) Q E s := by
  have hT := typeIs_bytes s b t
  unfold Builtin.Bytes.buffer?
  refine wpAny_bind (wpAny_specialOf hT bytes_buffer ?_)
  dsimp only
  refine wpAny_bind ?_
  unfold Builtin.Bytes.slotIsOwn
  refine wpAny_bind (wpAny_specialOf hT bytes_buffer ?_)
  dsimp only
  rw [show (!"bytes.__buffer__".endsWith ("." ++ "__buffer__")) = false from by decide +kernel, if_neg Bool.false_ne_true]
  rw [show "bytes.__buffer__".dropRight ("__buffer__".length + 1) = "bytes" from by decide +kernel]
  refine wpAny_isInstance hT F.bm_sub ?_
  refine cZ (by decide) ?_
  refine wpAny_bind (wpAny_specialOf hT bytes_buffer ?_)
  try dsimp only
  refine wpAny_bind ?_
  unfold Builtin.Bytes.ownRelease Builtin.Bytes.slotIsOwn
  refine wpAny_bind (wpAny_bind (wpAny_specialOf hT bytes_no_rel ?_))
  refine wpAny_pure (wpAny_pure ?_)
  refine cZ (by decide) ?_
  exact wpAny_bind (wpAny_of_eq (a := b) rfl (wpAny_pure h))
theorem initBytes {a : Addr} {b : _root_.List UInt8} {t : Tok} {Q : Fin -> Shared -> Prop} (e : s.heap.get? a = some (bo [])) (hg : A.guards = some []) (hsz : b.length <= 1000000)
    (h : ∀ h', h'.get? a = some (bo b) -> (∀ x o, x ≠ a -> s.heap.get? x = some o -> h'.get? x = some o) -> Q (.done (.ret .none)) { s with heap := h' }) :
    wpN (model prog w) A (Builtin.«bytearray.__init__» ⟨[.ref a, .bytes b.toArray t], []⟩) Q E s := by
  unfold Builtin.«bytearray.__init__»
  refine aM (ownRel e rfl ?_)
  refine aT Bool.false_ne_true ?_
  refine aA (aB (wpAny_of_eq (bind_ba _) ?_))
  dsimp only
  refine aM (wpAny_of_eq checkNone ?_)
  refine aM (wpAny_of_eq checkNone ?_)
  refine aA ?_
  unfold orM
  refine aA (exportedN hg ?_)
  show wpN _ A (Builtin.Bytes.exportsOf (.ref a) >>= fun k => pure (decide (k > 0))) _ _ s
  unfold Builtin.Bytes.exportsOf
  refine aA (aM (wpAny_load e (aC ?_)))
  refine aC ?_
  refine aT (by decide) ?_
  refine aM (writeBA (r := []) e rfl (by decide) fun hG eH sbH => ?_)
  refine aM (wpAny_of_eq (a := none) rfl ?_)
  refine aT (by decide) ?_
  refine aA ?_
  refine aT (by decide) ?_
  refine aT (by decide) ?_
  refine aC ?_
  refine aM (wpAny_specialOf (T := "bytes") (typeIs_bytes _ _ _) bytes_no_index ?_)
  refine aT (by decide) ?_
  refine aM (bufferBytes ?_)
  dsimp only
  refine aM (wpAny_rule ?_)
  refine aM (writeBA (r := b) eH rfl (by rw [sizeLine_eq]; (exact Nat.le_trans (by assumption) (Nat.le_add_left _ _))) fun hH eG sbG => ?_)
  exact aC (h hH eG fun x o hb eo => (sbG.2 x hb).trans ((sbH.2 x hb).trans eo))
theorem ctorBytes {b : _root_.List UInt8} {t : Tok} {Q : Value -> Shared -> Prop} (hg : A.guards = some []) (hsz : b.length <= 1000000)
    (h : ∀ h', h'.get? s.heap.objs.size = some (bo b) -> (∀ x o, s.heap.get? x = some o -> h'.get? x = some o) -> Q (.ref s.heap.objs.size) { s with heap := h' }) :
    wpN (model prog w) A (call (.type "bytearray") [.bytes b.toArray t]) Q E s := by
  refine ctorN (initBytes (Heap.get?_push_size _ rfl) hg hsz fun h' e' k => ⟨rfl, ⟨_, e', rfl⟩, h h' e' fun x o e => k x o (Nat.ne_of_lt (Heap.lt_size e)) (Heap.get?_push_of_some _ e)⟩)
end
end Fb.N
namespace Fb.N
theorem slot_ba_set : Slot "bytearray" "__setitem__" "bytearray.__setitem__" :=
  .of (owner := "bytearray") (n := "__setitem__") (by rw [typeLookup_type, builtinLookup_eq_fast]; kernel_rfl) (by decide +kernel) (by decide +kernel) (by decide +kernel)
    (by first | exact .inl (by decide +kernel) | exact .inr (by decide +kernel)) (by rw [isSubtype_type]; kernel_rfl)
theorem entry_ba_set : entryFor table "bytearray.__setitem__" = some Builtin.«bytearray.__setitem__» := entryFor_of_tree (by kernel_rfl)
theorem plain_ba_set : plainId "bytearray.__setitem__" = true := by decide +kernel
theorem args_ba_set (a b c : Value) : argsOk "bytearray.__setitem__" ⟨[a, b, c], []⟩ := by
  unfold argsOk; rw [signature?_of (id := "bytearray.__setitem__") (n := ['_', '_', 'm', 'e', 't', 'i', 't', 'e', 's', '_', '_']) (o := ['y', 'a', 'r', 'r', 'a', 'e', 't', 'y', 'b']) (by kernel_rfl) owner_ba']; kernel_rfl
theorem bytes_no_int : typeLookup (.type "bytes") "__int__" = pure none := by rw [typeLookup_type, builtinLookup_eq_fast]; kernel_rfl
theorem bytes_no_float : typeLookup (.type "bytes") "__float__" = pure none := by rw [typeLookup_type, builtinLookup_eq_fast]; kernel_rfl
theorem sub_bytes_complex : isSubtype (.type "bytes") (.type "complex") = pure false := by rw [isSubtype_type]; kernel_rfl
theorem sub_bytes_ba : isSubtype (.type "bytes") (.type "bytearray") = pure false := by rw [isSubtype_type]; kernel_rfl
section
variable {prog : Program} {w : World} {A : Around} {E : Value -> Shared -> Prop} {s : Shared}
theorem parts {M : Model} {sa : Addr} {l u : Value} {lo hi : Option Int} {Q : Value × Value × Value -> Shared -> Prop} (hl : IsPart l lo) (hu : IsPart u hi) (hs : s.heap.IsSliceOf sa l u .none) (h : Q (rawPart lo, rawPart hi, .none) s) : wpAny M A (Builtin.Bytes.sliceParts (.ref sa)) Q E s := by
  refine bcn fun nG => ?_; obtain ⟨o, ho, hc, hd⟩ := hs
  refine nG ?_; unfold Builtin.Bytes.sliceParts
  refine wpAny_bind (wpAny_field (x := .none) ho hd rfl ?_)
  kby_none
  refine wpAny_ite (KBy.ite_no (show ¬ ((Value.none == rawInt 0) = true) from Bool.false_ne_true) ?_)
  refine wpAny_bind (wpAny_field (x := l) ho hd rfl ?_)
  cases hl <;> cases hu <;> (first
    | (kby_none; (refine wpAny_bind (wpAny_field (x := .none) ho hd rfl ?_)); kby_none)
    | (kby_none; (refine wpAny_bind (wpAny_field (x := .int _ _) ho hd rfl ?_)); kby_int)
    | (kby_int; (refine wpAny_bind (wpAny_field (x := .none) ho hd rfl ?_)); kby_none)
    | (kby_int; (refine wpAny_bind (wpAny_field (x := .int _ _) ho hd rfl ?_)); kby_int)) <;> exact wpAny_pure h
theorem payBA {a : Addr} {l : _root_.List UInt8} {M : Model} {Q : Array UInt8 -> Shared -> Prop} (e : s.heap.get? a = some (bo l)) (h : Q l.toArray s) : wpAny M A (Builtin.Bytes.payload (.ref a)) Q E s := by
  unfold Builtin.Bytes.payload Builtin.Bytes.payload?
  exact wpAny_bind (wpAny_bind (wpAny_load e (wpAny_pure (wpAny_pure h))))
theorem clipN {n len : Nat} (h : n <= len) : max 0 (min (if (n : Int) < 0 then (n : Int) + len else n) (len : Int)) = n := by
  rw [if_neg (Int.not_lt.mpr (Int.natCast_nonneg n)), Int.min_eq_left (Int.ofNat_le.mpr h), Int.max_eq_right (Int.natCast_nonneg n)]
theorem bnds {x : Int} {r len : Nat} {hio : Option Int} (h0 : 0 <= x) (h1 : x + r <= len) (hior : hio = some (x + r) \/ (hio = none /\ x + r = len)) : sliceBounds (some x) hio none len = (((x.toNat : Nat) : Int), (((x.toNat + r : Nat)) : Int), 1) := by
  obtain ⟨n, rfl⟩ := Int.eq_ofNat_of_zero_le h0
  have h2 : n + r <= len := Int.ofNat_le.mp h1
  rcases hior with rfl | ⟨rfl, hq⟩
  . exact Prod.ext (clipN (Nat.le_trans (Nat.le_add_right n r) h2)) (Prod.ext (clipN (n := n + r) h2) rfl)
  . exact Prod.ext (clipN (Nat.le_trans (Nat.le_add_right n r) h2)) (Prod.ext hq.symm rfl)
theorem toNat_max (n r : Nat) : (max (n : Int) ((n + r : Nat) : Int)).toNat = n + r := by rw [Int.max_eq_right (Int.ofNat_le.mpr (Nat.le_add_right _ _)), Int.toNat_natCast]
theorem put_eq {n : Nat} {l raw : _root_.List UInt8} : l.toArray.extract 0 ((n : Nat) : Int).toNat ++ raw.toArray ++ l.toArray.extract (max (n : Int) ((n + raw.length : Nat) : Int)).toNat = (l.take n ++ (raw ++ l.drop (n + raw.length))).toArray := by
  rw [toNat_max]
  apply Array.ext'
  simp [List.take_of_length_le]
theorem same_len {n : Nat} {raw : _root_.List UInt8} : ¬ ((raw.toArray.size : Int) != max (n : Int) ((n + raw.length : Nat) : Int) - n) = true := by
  rw [Int.max_eq_right (Int.ofNat_le.mpr (Nat.le_add_right _ _))]
  simp; lia
theorem put_lenN {n : Nat} {l raw : _root_.List UInt8} (h : n + raw.length <= l.length) : (l.take n ++ (raw ++ l.drop (n + raw.length))).length = l.length := by
  rw [List.length_append, List.length_append, List.length_take, List.length_drop, Nat.min_eq_left (Nat.le_trans (Nat.le_add_right _ _) h), <- Nat.add_assoc, Nat.add_sub_cancel' h]
theorem put_len {x : Int} {l raw : _root_.List UInt8} (h0 : 0 <= x) (h1 : x + raw.length <= l.length) (h2 : l.length <= 1000000) : (l.take x.toNat ++ (raw ++ l.drop (x.toNat + raw.length))).length <= sizeLine := by
  obtain ⟨n, rfl⟩ := Int.eq_ofNat_of_zero_le h0
  rw [sizeLine_eq]; exact Nat.le_trans (Nat.le_of_eq (put_lenN (n := n) (Int.ofNat_le.mp h1))) (Nat.le_trans h2 (by decide))
theorem setBody {a sa : Addr} {l raw : _root_.List UInt8} {x : Int} {t : Tok} {hi v : Value} {Q : Fin -> Shared -> Prop} (hg : A.guards = some []) (ea : s.heap.get? a = some (bo l)) (es : s.heap.get? sa = some { cls := .type "slice", data := .fields #[.int x t, hi, .none] })
    (hv : (∃ t', v = .bytes raw.toArray t' /\ ∃ y t2, hi = .int y t2 /\ y = x + raw.length) \/ (∃ c, v = .ref c /\ c ≠ a /\ s.heap.get? c = some (bo raw) /\ hi = .none /\ x + raw.length = l.length)) (h0 : 0 <= x) (h1 : x + raw.length <= l.length) (h2 : l.length <= 1000000)
    (h : ∀ h', h'.get? a = some (bo (l.take x.toNat ++ (raw ++ l.drop (x.toNat + raw.length)))) -> (∀ b o, b ≠ a -> s.heap.get? b = some o -> h'.get? b = some o) -> Q (.done (.ret .none)) { s with heap := h' }) :
    wpN (model prog w) A (Builtin.«bytearray.__setitem__» ⟨[.ref a, .ref sa, v], []⟩) Q E s := by
  have hT : s.TypeIs (.ref sa) "slice" := ⟨_, es, rfl⟩
  unfold Builtin.«bytearray.__setitem__»
  dsimp only
  refine aM ?_
  unfold Builtin.Bytes.subscript?
  refine wpAny_bind (wpAny_specialOf hT slice_no_index (wpAny_pure ?_))
  dsimp only
  refine aM (wpAny_typeOf hT ?_)
  refine aT (by decide) ?_
  have hi1 : ∃ hio : Option Int, IsPart hi hio /\ ((hio = some (x + raw.length)) \/ (hio = none /\ x + raw.length = l.length)) := by
    rcases hv with ⟨_, _, y, t2, rfl, rfl⟩ | ⟨_, _, _, _, rfl, hq⟩
    . exact ⟨_, .int _ _, .inl rfl⟩
    . exact ⟨_, .none, .inr ⟨rfl, hq⟩⟩
  obtain ⟨hio, hip, hior⟩ := hi1
  refine aM (parts (.int x t) hip ⟨_, es, rfl, rfl⟩ ?_)
  have bounds : sliceBounds (some x) hio none l.toArray.size = (((x.toNat : Nat) : Int), (((x.toNat + raw.length : Nat)) : Int), 1) := bnds h0 h1 hior
  rcases hv with ⟨t', rfl, y, t2, rfl, hy⟩ | ⟨c, rfl, hca, ec, rfl, hq⟩
  . refine aT (show ¬ (Builtin.Bytes.sameRef (.ref a) (.bytes raw.toArray t') = true) from Bool.false_ne_true) ?_
    refine aM (wpAny_isInstance (typeIs_bytes _ _ _) sub_bytes_ba ?_)
    refine pJ (show (!false) = true from rfl) ?_
    refine aA ?_
    unfold orM
    refine aA (aM (wpAny_specialOf (T := "bytes") (typeIs_bytes _ _ _) bytes_no_index (aC ?_)))
    refine aA (aM (wpAny_specialOf (T := "bytes") (typeIs_bytes _ _ _) bytes_no_int (aC ?_)))
    refine aA (aM (wpAny_specialOf (T := "bytes") (typeIs_bytes _ _ _) bytes_no_float (aC ?_)))
    refine aB (wpAny_isInstance (typeIs_bytes _ _ _) sub_bytes_complex ?_)
    refine aM (wpAny_of_eq (a := none) rfl ?_)
    refine aT (by decide) ?_
    refine aM (wpAny_rule ?_)
    refine aA (ctorBytes hg (by lia) fun hG eH kW => ?_)
    refine aA (aI (aB (parts (s := { s with heap := hG }) (.int x t) hip ⟨_, kW _ _ es, rfl, rfl⟩ ?_)))
    refine aM (payBA eH ?_)
    refine aM (payBA (kW _ _ ea) ?_)
    refine aM (wpAny_of_eq (sliceIndices_raw (some x) hio none l.toArray.size (fun e => nomatch e)) ?_)
    rw [bounds]
    dsimp only
    refine pJ (by rfl) ?_
    refine aM (wpAny_rule ?_)
    refine Fb.aT same_len ?_
    refine aM (writeBA (r := l.take x.toNat ++ (raw ++ l.drop (x.toNat + raw.length))) (kW _ _ ea) put_eq (put_len h0 h1 h2) fun hH eG sbG => ?_)
    exact aC (h hH eG fun b o hb eo => (sbG.2 b hb).trans (kW b o eo))
  . have hne : (a == c) = false := beq_false_of_ne (Ne.symm hca)
    refine aT (show ¬ (Builtin.Bytes.sameRef (.ref a) (.ref c) = true) from by show ¬ ((a == c) = true); rw [hne]; exact Bool.false_ne_true) ?_
    refine aM (wpAny_isInstance ⟨_, ec, rfl⟩ sub_ba ?_)
    refine aT (by decide) ?_
    refine aM (payBA ec ?_)
    refine aM (payBA ea ?_)
    refine aM (wpAny_of_eq (sliceIndices_raw (some x) hio none l.toArray.size (fun e => nomatch e)) ?_)
    rw [bounds]
    dsimp only
    refine pJ (by rfl) ?_
    refine aM (wpAny_rule ?_)
    refine Fb.aT same_len ?_
    refine aM (writeBA (r := l.take x.toNat ++ (raw ++ l.drop (x.toNat + raw.length))) ea put_eq (put_len h0 h1 h2) fun hH eG sbG => ?_)
    exact aC (h hH eG fun b o hb eo => (sbG.2 b hb).trans (eo))
end
end Fb.N
namespace Fb.N
theorem wp_done {M : Model} {A : Around} {Γ : PySem.Ctx} {t : Sem Fin} {R : Result -> Shared -> Prop} {s : Shared} (hin : Γ.In A) (h1 : okC Γ.code = true) (h2 : Clean Γ.below)
    (h : wpN M A t (fun fin s' => ∃ f, fin = .done f /\ R (.ok f) s') (fun e s' => R (.error e) s') s) (p : Pos) : Sem.wp M Γ t (Sem.finPost M Γ R) (fun e _ s' => R (.error e) s') p s := by
  refine Sem.wp_mono M Γ t (fun fin p' s' h' => ?_) (fun _ _ _ h' => h') p s (h Γ p hin h1 h2)
  obtain ⟨f, rfl, hf⟩ := h'
  exact hf
theorem thread {prog : Program} {w : World} {t : Sem Fin} {s : Shared} {R : Result -> Shared -> Prop} (hreg : s.asleep)
    (h : wpN (model prog w) callerA t (fun fin s' => ∃ f, fin = .done f /\ (R (.ok f) s' /\ leftWithCleanup s'.gens = false)) (fun e s' => R (.error e) s' /\ leftWithCleanup s'.gens = false) s) :
    ∃ n r s' s'', runN (denote table) prog w n s ⟨t, .builtin "claim.caller" {}, default, []⟩ = .halted (outcomeOf r) s' /\
      schedN (denote table) prog w n (.single s ⟨t, .builtin "claim.caller" {}, default, []⟩) = .halted (outcomeOf r) s' /\ s'.forget = s''.forget /\ R r s'' := by
  refine bcn fun nG => ?_; obtain ⟨n, r, sG, sH, zq0⟩ := wp_halts_full (M := model prog w) (R := R) hreg (wp_done (R := fun r s' => R r s' /\ leftWithCleanup s'.gens = false) caller_in (by decide +kernel) (fun _ h => nomatch h) h default); have hs := zq0.1; have hn := zq0.2.1; have hfo := zq0.2.2.1; have hR := zq0.2.2.2
  refine nG ?_; exact ⟨n, r, sH, sG, hn, hs, hfo, hR⟩
theorem callFrom {c : ClaimW} {tree : _root_.List Value -> Sem Fin} {w : World} {s : Shared} {free : Addr -> Prop} {gens : Prop} {kept : Heap -> Prop} (hz : s.asleep) (hgens : s.gens = #[])
    (hspec : ∀ args, c.pre args = true -> WData.layableAll args = true ->
      ∀ ord : _root_.List DictEntry -> _root_.List DictEntry, (∀ l, (ord l).Perm l) ->
      ∃ vs sG, layAllW c.records (classAt s.heap) w.params ord args s = some (vs, sG) /\
        wpN (model c.prog w) callerA (tree vs) (fun fin s' => ∃ f, fin = .done f /\ (c.Ends s args vs sG (.ok f) s' /\ s'.os = s.os /\ AllBare s'.gens /\ kept s'.heap))
          (fun e s' => c.Ends s args vs sG (.error e) s' /\ s'.os = s.os /\ AllBare s'.gens /\ kept s'.heap) sG) :
    c.CallFrom (fun vs => ⟨tree vs, .builtin "claim.caller" {}, default, []⟩) w free gens kept s := by
  intro args hpre hlay ord hord
  refine bcn fun nG => ?_
  obtain ⟨vs, sG, hlaid, hcode⟩ := hspec args hpre hlay ord hord
  have hal := layAllW_rest _ _ _ hlaid
  obtain ⟨k, r, s', s'', hrun, hsched, hfo, hcase, hos, hkp⟩ := thread (prog := c.prog) (w := w) (t := tree vs) (s := sG)
    (R := fun r s' => c.Ends s args vs sG r s' /\ s'.os = s.os /\ kept s'.heap)
    (Shared.asleep_of_life hal.2.2.2 hz)
    (aD hcode (fun fin s' q => by
      obtain ⟨f, e, h1, h2, h3, h4⟩ := q
      exact ⟨f, e, ⟨h1, h2, h4⟩, leftWithCleanup_false_of_bare h3⟩) (fun e s' q => by
      obtain ⟨h1, h2, h3, h4⟩ := q
      exact ⟨⟨h1, h2, h4⟩, leftWithCleanup_false_of_bare h3⟩))
  obtain ⟨eh, _, _, eo, _⟩ := Shared.forget_eq hfo
  have hcase := hcase.congr eh
  have hkp : kept s'.heap := by first | exact eh ▸ hkp | (rw [eh] at hkp; exact hkp) | (rw [<- eh] at hkp; exact hkp)
  rw [<- eo] at hos
  have hlife : s'.heap.life = s.heap.life := (runN_life _ _ _ hrun).trans hal.2.2.2
  refine nG ⟨vs, sG, hlaid, k, _, s', hsched, ?_, (fun _ i x hx => by rw [hgens] at hx; simp at hx), hkp, by rw [hlife], Shared.rest_eq hos⟩
  exact hcase.imp (fun h => h.imp fun v h => ⟨congrArg outcomeOf h.1, h.2.1, h.2.2.1, h.2.2.2.1, fun b o y _ => h.2.2.2.2.1 b o y, h.2.2.2.2.2⟩)
    fun h => h.imp fun e h => h.imp fun ob h => h.imp fun cls h => ⟨congrArg outcomeOf h.1, h.2.1, h.2.2.1, h.2.2.2.1, h.2.2.2.2.1, fun b o y _ => h.2.2.2.2.2 b o y⟩
end Fb.N
namespace Fb.N
theorem holds {r : OpenRow} {q : Program} {loose : _root_.List Str} {Xt : Shared -> Bool} {XP : (Str -> Option Value) -> Heap -> Prop} {α : Type} {Yf : Shared -> α} {Ya : World -> α} {YP : World -> Heap -> Prop} {d : DefRec} {kwd : _root_.List (Str × Expr)} {N : Nat}
    (left : LeftO r.prog q loose Xt Yf Ya N) (hY : ∀ w s, Yf s = Ya w -> YP w s.heap) (hYk : ∀ w h h', YP w h -> (∀ b o, h.get? b = some o -> h'.get? b = some o) -> YP w h')
    (hX : ∀ s, Xt s = true -> XP (s.heap.nsMap mainGlobals) s.heap) (hXk : ∀ mg h h', XP mg h -> (∀ b o, h.get? b = some o -> h'.get? b = some o) -> XP mg h')
    (hdef : defOf q r.name = some (d, kwd)) (hp : r.prog.theDef r.name = some (d.params, d.body, d.scope)) (hk : kwWritten? d.params.kwonlyargs d.params.kw_defaults = some kwd) (hRf : ∀ s, Xt s = true -> RecFacts r.records s.heap) (hwr : (!r.writes || r.records.isEmpty) = true)
    (k1 : r.wellSaid = true) (ok : (chainsOk q && opensWell r.prog && (frees r.toRowW && r.within.isEmpty)) = true) (hb : r.prog.bare) (hw : r.toRowW.promised)
    (law : ∀ (w : World) (sD sG : Shared) (mg mb : Str -> Option Value), Ground q loose r.records XP w sD mg mb sG.heap -> YP w sG.heap -> ∀ (args : _root_.List WData) (vs : _root_.List Value) (as : _root_.List Addr),
      r.claim.pre args = true -> WData.layableAll args = true -> Laid r.records w sD sG args vs as -> sysModules < sD.heap.objs.size -> ∃ f, mg r.name = some f /\
        wpN (model r.prog w) callerA (call f vs) (fun v s' => GoodWG r.claim (classAt sD.heap) (ExcName.means sD.heap) args sG (.ok (.ret v)) s') (fun e s' => GoodWG r.claim (classAt sD.heap) (ExcName.means sD.heap) args sG (.error e) s') sG) : r.Holds := by
  refine ⟨k1, hw, ?_⟩
  have zq0 := Bool.and_eq_true_iff.mp ok; have ok := zq0.1; have k5 := zq0.2; clear zq0
  have zq0 := Bool.and_eq_true_iff.mp ok; have hch := zq0.1; have o1 := zq0.2; clear zq0
  have zq0 := Bool.and_eq_true_iff.mp k5; have k5 := zq0.1; have k6 := zq0.2; clear zq0
  have zq0 := frees_parts k5; have hsame := zq0.1; have hu := zq0.2.1; have ha := zq0.2.2.1; have hap := zq0.2.2.2.1; have hm := zq0.2.2.2.2; clear zq0
  refine ⟨⟨hb, o1, by show r.toRowW.makers.map _ = []; rw [hm]; rfl⟩, hw.witness, fun w => ⟨(left.behind hX hch w).1, fun s' hs' => ?_⟩⟩
  refine bcn fun nG => ?_; obtain ⟨sD, zq0⟩ := (left.behind (XP := fun mg h => XP mg h /\ RecFacts r.records h) (fun s hs => ⟨hX s hs, hRf s hs⟩) hch w).2 s' hs'; have hf := zq0.1; have hg0 := zq0.2.1; obtain ⟨s, zq1⟩ := zq0.2.2; have hT := zq1.1; have hz := zq1.2.1; have hgens := zq1.2.2.1; have hg := zq1.2.2.2.1; have G00 := zq1.2.2.2.2.1; have y := zq1.2.2.2.2.2
  have G0 : Ground q loose [] XP w s (s.heap.nsMap mainGlobals) (s.heap.nsMap builtinsNs) s.heap := ⟨G00.T, G00.B, G00.D, G00.TE, G00.TD, G00.W, G00.X.1, G00.cls, G00.has, G00.apart, G00.once, G00.K⟩
  have RF := G00.X.2
  have hT' := hT
  refine nG ?_; refine ⟨sD, hf, hg0, s, hT, fun n hn => ?_, RF.1, RF.2.1, ?_⟩
  . obtain rfl : n = r.name := by split at hn <;> simp_all
    exact pinned_of_view hg G0 hdef hp hk
  have hgens : s.gens = #[] := Array.eq_empty_of_size_eq_zero (beq_iff_eq.mp hgens)
  have G : Ground q loose r.records XP w s _ _ s.heap := RF.ground G0
  refine callFrom (c := r.claim) hz hgens fun args hpre hlay ord hord => ?_
  refine bcn fun nG => ?_; obtain ⟨⟨vs, sG⟩, hlaid⟩ := Option.isSome_iff_exists.mp (layAllW_isSome (P := w.params) (ord := ord) G.has args r.args s (pre_splitW hpre).1)
  have keeps := layAllW_keeps _ _ _ hlaid
  have hal := layAllW_rest _ _ _ hlaid
  obtain ⟨as, zq0⟩ := reads_layAllW hord _ _ _ hlaid hlay sG.heap (fun _ _ e => e); have hrd := zq0.1; have hin := zq0.2.1; have hold := zq0.2.2
  have L : Laid r.records w s sG args vs as := ⟨⟨ord, hord, hlaid⟩, hrd, hin, hold, keeps, hal.1.trans hgens, hal.2.2.1⟩
  have GH := G.keeps hXk keeps
  obtain ⟨f, zq0⟩ := law w s sG _ _ GH (hYk _ _ _ (hY w s y) keeps) args vs as hpre hlay L G.low; have hf := zq0.1; have h := zq0.2
  have hi := ident_freeW hu ha hap
  have hwi : r.claim.within = [] := List.isEmpty_iff.mp k6
  refine nG ?_; refine ⟨vs, sG, hlaid, ?_⟩
  refine aM (wpAny_nsGet GH.T.g ?_)
  rw [hf]
  refine aA (aD h (fun v s' g => aC ⟨_, rfl, ?_⟩) fun e s' g => ?_)
  . have z := g.laid (c := r.claim) hsame hwi hi L
    exact ⟨z.1, z.2.1, z.2.2, fun q => ⟨namesKept_of hT' hg _ keeps g.2.1.old, noTable hwr q⟩⟩
  . have z := g.laid (c := r.claim) hsame hwi hi L
    exact ⟨z.1, z.2.1, z.2.2, fun q => ⟨namesKept_of hT' hg _ keeps g.2.1.old, noTable hwr q⟩⟩
end Fb.N
set_option genInjectivity false
set_option genCtorIdx false
set_option genSizeOf false
namespace Fb
@[reducible] def sh (s : Shared) (h : Heap) (tk : Nat) : Shared := { s with heap := h, toks := tk }
set_option genCtorIdx true in
inductive AV where
  | unb | none | bool (b : Bool) | int (i : Int) | bytes (b : List UInt8) | str (s : Str)
  | cst (v : Value)
  | ints (l : List Int) | lst (l : List AV) | itup (l : List Int) | tup (l : List AV) | barr (b : List UInt8)
  | bld | pile | box | vts | bb (n : Nat) | tb (n : Nat) | tl (n : Nat) | cv (n : Nat)
set_option genCtorIdx true in
inductive Sl where
  | vtables | vne | shared | oend | nested | minalign | head | force | fin | cv | bytes
noncomputable def Sl.idx : Sl -> Nat
  | .vtables => 10 | .vne => 9 | .shared => 8 | .oend => 7 | .nested => 6 | .minalign => 5 | .head => 4 | .force => 3 | .fin => 2 | .cv => 1 | .bytes => 0
noncomputable def Sl.name : Sl -> Str
  | .vtables => Str.ofString "vtables" | .vne => Str.ofString "vectorNumElems" | .shared => Str.ofString "sharedStrings" | .oend => Str.ofString "objectEnd" | .nested => Str.ofString "nested"
  | .minalign => Str.ofString "minalign" | .head => Str.ofString "head" | .force => Str.ofString "forceDefaults" | .fin => Str.ofString "finished" | .cv => Str.ofString "current_vtable" | .bytes => Str.ofString "Bytes"
noncomputable def Sl.addr : Sl -> Addr
  | .vtables => 740 | .vne => 739 | .shared => 738 | .oend => 737 | .nested => 736 | .minalign => 735 | .head => 734 | .force => 733 | .fin => 732 | .cv => 731 | .bytes => 730
structure St where
  ver : Nat
  bytes : List UInt8
  head : Int
  minalign : Int
  oend : Option Int
  nested : Bool
  vne : Option (Option Int)
  fin : Bool
  cvv : Nat
  cv : Option (List Int)
  vts : List (List Int)
  tbv : Nat
  tb : Option (List UInt8)
  tlv : Nat
  tl : Option (List Int)
  pile : List Int
  pmax : Int
  script : List Int
  bi : Int
@[reducible] def St.uVer (σ : St) (x : Nat) : St := { σ with ver := x }
@[reducible] def St.uBytes (σ : St) (x : List UInt8) : St := { σ with bytes := x }
@[reducible] def St.uHead (σ : St) (x : Int) : St := { σ with head := x }
@[reducible] def St.uMinalign (σ : St) (x : Int) : St := { σ with minalign := x }
@[reducible] def St.uOend (σ : St) (x : Option Int) : St := { σ with oend := x }
@[reducible] def St.uNested (σ : St) (x : Bool) : St := { σ with nested := x }
@[reducible] def St.uVne (σ : St) (x : Option (Option Int)) : St := { σ with vne := x }
@[reducible] def St.uFin (σ : St) (x : Bool) : St := { σ with fin := x }
@[reducible] def St.uCvv (σ : St) (x : Nat) : St := { σ with cvv := x }
@[reducible] def St.uCv (σ : St) (x : Option (List Int)) : St := { σ with cv := x }
@[reducible] def St.uVts (σ : St) (x : List (List Int)) : St := { σ with vts := x }
@[reducible] def St.uTbv (σ : St) (x : Nat) : St := { σ with tbv := x }
@[reducible] def St.uTb (σ : St) (x : Option (List UInt8)) : St := { σ with tb := x }
@[reducible] def St.uTlv (σ : St) (x : Nat) : St := { σ with tlv := x }
@[reducible] def St.uTl (σ : St) (x : Option (List Int)) : St := { σ with tl := x }
@[reducible] def St.uPile (σ : St) (x : List Int) : St := { σ with pile := x }
@[reducible] def St.uPmax (σ : St) (x : Int) : St := { σ with pmax := x }
@[reducible] def St.uScript (σ : St) (x : List Int) : St := { σ with script := x }
@[reducible] def St.uBi (σ : St) (x : Int) : St := { σ with bi := x }
noncomputable def AV.ofOpt : Option Int -> AV
  | Option.none => .none
  | Option.some i => .int i
noncomputable def St.slot (σ : St) : Sl -> AV
  | .vtables => .vts | .vne => (match σ.vne with | Option.none => .unb | Option.some o => AV.ofOpt o) | .shared => .none | .oend => AV.ofOpt σ.oend | .nested => .bool σ.nested
  | .minalign => .int σ.minalign | .head => .int σ.head | .force => .bool false | .fin => .bool σ.fin
  | .cv => (match σ.cv with | Option.none => .none | Option.some _ => .cv σ.cvv) | .bytes => .bb σ.ver
structure Ad where
  b : Addr
  ba : Addr
  dx : Addr
  vd : Addr
  pl : Addr
  bx : Addr
  cv : Option Addr
  tb : Option Addr
  tl : Option Addr
  rs : List Addr
noncomputable def Ad.M (ρ : Ad) : List Addr := ρ.b :: ρ.dx :: ρ.ba :: ρ.vd :: ρ.pl :: ρ.bx :: (ρ.cv.toList ++ (ρ.tb.toList ++ ρ.tl.toList))
section
variable {ρ : Ad}
theorem M_b : ρ.b ∈ ρ.M := .head _
theorem M_dx : ρ.dx ∈ ρ.M := .tail _ (.head _)
theorem M_ba : ρ.ba ∈ ρ.M := .tail _ (.tail _ (.head _))
theorem M_vd : ρ.vd ∈ ρ.M := .tail _ (.tail _ (.tail _ (.head _)))
theorem M_pl : ρ.pl ∈ ρ.M := .tail _ (.tail _ (.tail _ (.tail _ (.head _))))
theorem M_bx : ρ.bx ∈ ρ.M := .tail _ (.tail _ (.tail _ (.tail _ (.tail _ (.head _)))))
theorem M_r {a : Addr} (h : a ∈ ρ.cv.toList ++ (ρ.tb.toList ++ ρ.tl.toList)) : a ∈ ρ.M := .tail _ (.tail _ (.tail _ (.tail _ (.tail _ (.tail _ h)))))
theorem cvM {a : Addr} (h : a ∈ ρ.cv) : a ∈ ρ.M := M_r (List.mem_append_left _ (Option.mem_toList.mpr h))
theorem tbM {a : Addr} (h : a ∈ ρ.tb) : a ∈ ρ.M := M_r (List.mem_append_right _ (List.mem_append_left _ (Option.mem_toList.mpr h)))
theorem tlM {a : Addr} (h : a ∈ ρ.tl) : a ∈ ρ.M := M_r (List.mem_append_right _ (List.mem_append_right _ (Option.mem_toList.mpr h)))
end
noncomputable def Sl.ofIdx : Nat -> Sl
  | 10 => .vtables | 9 => .vne | 8 => .shared | 7 => .oend | 6 => .nested | 5 => .minalign | 4 => .head | 3 => .force | 2 => .fin | 1 => .cv | _ => .bytes
theorem Sl.ofIdx_idx (k : Sl) : Sl.ofIdx k.idx = k := by induction k using Sl.casesOn <;> rfl
theorem Sl.idx_ne {j k : Sl} (h : j ≠ k) : j.idx ≠ k.idx := fun e => h (by rw [<- Sl.ofIdx_idx j, e, Sl.ofIdx_idx])
theorem Sl.idx_lt (k : Sl) : k.idx < 11 := by induction k using Sl.casesOn <;> decide
noncomputable def St.core (σ : St) : (Nat × Nat × Nat × Nat) × (List UInt8 × Option (List Int) × List (List Int) × Option (List UInt8) × Option (List Int)) × List Int × Int × List Int × Int :=
  ((σ.ver, σ.tbv, σ.tlv, σ.cvv), (σ.bytes, σ.cv, σ.vts, σ.tb, σ.tl), σ.pile, σ.pmax, σ.script, σ.bi)
noncomputable def Fz (ρ : Ad) (a : Addr) : Prop := a ∉ ρ.M /\ a ∉ ρ.rs
noncomputable abbrev lob (vs : Array Value) (n : Nat) : Obj := ⟨.type "list", none, .seq vs n, #[]⟩
noncomputable abbrev tob (vs : Array Value) (n : Nat) : Obj := ⟨.type "tuple", none, .seq vs n, #[]⟩
noncomputable abbrev bob (l : List UInt8) : Obj := ⟨.type "bytearray", none, .bytearray l.toArray 0, #[]⟩
mutual
inductive RV (ρ : Ad) (σ : St) (h : Heap) : AV -> Value -> Prop
  | none : RV ρ σ h .none .none
  | bool (b : Bool) : RV ρ σ h (.bool b) (.bool b)
  | int (i : Int) (t : Tok) : RV ρ σ h (.int i) (.int i t)
  | bytes (l : List UInt8) (t : Tok) : RV ρ σ h (.bytes l) (.bytes l.toArray t)
  | str (x : Str) (t : Tok) : RV ρ σ h (.str x) (.str x t)
  | cst (v : Value) : RV ρ σ h (.cst v) v
  | ints {a : Addr} {vs : Array Value} {n : Nat} {l : List Int} : Fz ρ a -> h.get? a = some (lob vs n) -> IntsAre vs.toList l -> RV ρ σ h (.ints l) (.ref a)
  | lst {a : Addr} {vs : Array Value} {n : Nat} {l : List AV} : Fz ρ a -> h.get? a = some (lob vs n) -> RVs ρ σ h l vs.toList -> RV ρ σ h (.lst l) (.ref a)
  | itup {a : Addr} {vs : Array Value} {n : Nat} {l : List Int} : Fz ρ a -> h.get? a = some (tob vs n) -> IntsAre vs.toList l -> RV ρ σ h (.itup l) (.ref a)
  | tup {a : Addr} {vs : Array Value} {n : Nat} {l : List AV} : Fz ρ a -> h.get? a = some (tob vs n) -> RVs ρ σ h l vs.toList -> RV ρ σ h (.tup l) (.ref a)
  | barr {a : Addr} {l : List UInt8} : Fz ρ a -> h.get? a = some (bob l) -> RV ρ σ h (.barr l) (.ref a)
  | bld : RV ρ σ h .bld (.ref ρ.b)
  | pile : RV ρ σ h .pile (.ref ρ.pl)
  | box : RV ρ σ h .box (.ref ρ.bx)
  | vts : RV ρ σ h .vts (.ref ρ.vd)
  | bb {n : Nat} {v : Value} : n <= σ.ver -> (n = σ.ver -> v = .ref ρ.ba) -> RV ρ σ h (.bb n) v
  | tb {n : Nat} {v : Value} : n <= σ.tbv -> (n = σ.tbv -> ∀ x, ρ.tb = some x -> v = .ref x) -> RV ρ σ h (.tb n) v
  | tl {n : Nat} {v : Value} : n <= σ.tlv -> (n = σ.tlv -> ∀ x, ρ.tl = some x -> v = .ref x) -> RV ρ σ h (.tl n) v
  | cv {n : Nat} {v : Value} : n <= σ.cvv -> (n = σ.cvv -> ∀ x, ρ.cv = some x -> v = .ref x) -> RV ρ σ h (.cv n) v
inductive RVs (ρ : Ad) (σ : St) (h : Heap) : List AV -> List Value -> Prop
  | nil : RVs ρ σ h [] []
  | cons {x : AV} {v : Value} {xs : List AV} {vs : List Value} : RV ρ σ h x v -> RVs ρ σ h xs vs -> RVs ρ σ h (x :: xs) (v :: vs)
end
noncomputable def Seqy (o : Obj) : Prop := (∃ xs n, o.data = .seq xs n) \/ ∃ b n, o.data = .bytearray b n
structure Stp (P : Addr -> Prop) (ρ : Ad) (σ : St) (h : Heap) (ρ' : Ad) (σ' : St) (h' : Heap) : Prop where
  b : ρ'.b = ρ.b
  dx : ρ'.dx = ρ.dx
  vd : ρ'.vd = ρ.vd
  pl : ρ'.pl = ρ.pl
  bx : ρ'.bx = ρ.bx
  rs : ρ'.rs = ρ.rs
  ver : σ.ver <= σ'.ver /\ (σ'.ver = σ.ver -> ρ'.ba = ρ.ba)
  tbv : σ.tbv <= σ'.tbv /\ (σ'.tbv = σ.tbv -> ∀ x, ρ'.tb = some x -> ρ.tb = some x)
  tlv : σ.tlv <= σ'.tlv /\ (σ'.tlv = σ.tlv -> ∀ x, ρ'.tl = some x -> ρ.tl = some x)
  cvv : σ.cvv <= σ'.cvv /\ (σ'.cvv = σ.cvv -> ∀ x, ρ'.cv = some x -> ρ.cv = some x)
  keep : ∀ a o, a ∉ ρ.M -> ¬ P a -> h.get? a = some o -> h'.get? a = some o /\ a ∉ ρ'.M
noncomputable abbrev NoP : Addr -> Prop := fun _ => False
theorem Stp.refl (P : Addr -> Prop) (ρ : Ad) (σ : St) (h : Heap) : Stp P ρ σ h ρ σ h :=
  ⟨rfl, rfl, rfl, rfl, rfl, rfl, ⟨Nat.le_refl _, fun _ => rfl⟩, ⟨Nat.le_refl _, fun _ _ e => e⟩, ⟨Nat.le_refl _, fun _ _ e => e⟩, ⟨Nat.le_refl _, fun _ _ e => e⟩, fun _ _ a _ e => ⟨e, a⟩⟩
theorem Stp.trans {P : Addr -> Prop} {ρ ρ' B'' : Ad} {σ σ' A'' : St} {h h' h'' : Heap} (x : Stp P ρ σ h ρ' σ' h') (y : Stp P ρ' σ' h' B'' A'' h'') : Stp P ρ σ h B'' A'' h'' where
  b := y.b.trans x.b
  dx := y.dx.trans x.dx
  vd := y.vd.trans x.vd
  pl := y.pl.trans x.pl
  bx := y.bx.trans x.bx
  rs := y.rs.trans x.rs
  ver := ⟨Nat.le_trans x.ver.1 y.ver.1, fun e => by
    have h1 := x.ver.1; have h2 := y.ver.1
    exact (y.ver.2 (by lia)).trans (x.ver.2 (by lia))⟩
  tbv := ⟨Nat.le_trans x.tbv.1 y.tbv.1, fun e z hz => by
    have h1 := x.tbv.1; have h2 := y.tbv.1
    exact x.tbv.2 (by lia) _ (y.tbv.2 (by lia) _ hz)⟩
  tlv := ⟨Nat.le_trans x.tlv.1 y.tlv.1, fun e z hz => by
    have h1 := x.tlv.1; have h2 := y.tlv.1
    exact x.tlv.2 (by lia) _ (y.tlv.2 (by lia) _ hz)⟩
  cvv := ⟨Nat.le_trans x.cvv.1 y.cvv.1, fun e z hz => by
    have h1 := x.cvv.1; have h2 := y.cvv.1
    exact x.cvv.2 (by lia) _ (y.cvv.2 (by lia) _ hz)⟩
  keep := fun a o ha hp e => by
    obtain ⟨e', ha'⟩ := x.keep a o ha hp e
    exact y.keep a o ha' hp e'
theorem Stp.weaken {P P' : Addr -> Prop} {ρ ρ' : Ad} {σ σ' : St} {h h' : Heap} (x : Stp P ρ σ h ρ' σ' h') (hp : ∀ a, P a -> P' a) : Stp P' ρ σ h ρ' σ' h' :=
  { x with keep := fun a o ha hn e => x.keep a o ha (fun q => hn (hp a q)) e }
theorem Fz.monoR {P : Addr -> Prop} {ρ ρ' : Ad} {σ σ' : St} {h h' : Heap} {a : Addr} {o : Obj} (x : Stp P ρ σ h ρ' σ' h') (hP : ∀ a o, P a -> h.get? a = some o -> Seqy o -> a ∈ ρ.rs) (f : Fz ρ a) (e : h.get? a = some o) (hs : Seqy o) :
    Fz ρ' a /\ h'.get? a = some o := by
  obtain ⟨e', m'⟩ := x.keep a o f.1 (fun q => f.2 (hP a o q e hs)) e
  exact ⟨⟨m', by rw [x.rs]; exact f.2⟩, e'⟩
theorem RV.monoR {P : Addr -> Prop} {ρ ρ' : Ad} {σ σ' : St} {h h' : Heap} (x : Stp P ρ σ h ρ' σ' h') (hP : ∀ a o, P a -> h.get? a = some o -> Seqy o -> a ∈ ρ.rs) {av : AV} {v : Value} (r : RV ρ σ h av v) : RV ρ' σ' h' av v :=
  RV.rec (motive_1 := fun av v _ => RV ρ' σ' h' av v) (motive_2 := fun avs vs _ => RVs ρ' σ' h' avs vs)
    .none .bool .int .bytes .str .cst
    (fun f e hi => .ints (f.monoR x hP e (.inl ⟨_, _, rfl⟩)).1 (f.monoR x hP e (.inl ⟨_, _, rfl⟩)).2 hi)
    (fun f e _ hi => .lst (f.monoR x hP e (.inl ⟨_, _, rfl⟩)).1 (f.monoR x hP e (.inl ⟨_, _, rfl⟩)).2 hi)
    (fun f e hi => .itup (f.monoR x hP e (.inl ⟨_, _, rfl⟩)).1 (f.monoR x hP e (.inl ⟨_, _, rfl⟩)).2 hi)
    (fun f e _ hi => .tup (f.monoR x hP e (.inl ⟨_, _, rfl⟩)).1 (f.monoR x hP e (.inl ⟨_, _, rfl⟩)).2 hi)
    (fun f e => .barr (f.monoR x hP e (.inr ⟨_, _, rfl⟩)).1 (f.monoR x hP e (.inr ⟨_, _, rfl⟩)).2)
    (x.b ▸ .bld) (x.pl ▸ .pile) (x.bx ▸ .box) (x.vd ▸ .vts)
    (fun l e => .bb (Nat.le_trans l x.ver.1) fun q => (x.ver.2 (Nat.le_antisymm (q ▸ l) x.ver.1)).symm ▸ e (Nat.le_antisymm l (q ▸ x.ver.1)))
    (fun l e => .tb (Nat.le_trans l x.tbv.1) fun q z hz => e (Nat.le_antisymm l (q ▸ x.tbv.1)) z (x.tbv.2 (Nat.le_antisymm (q ▸ l) x.tbv.1) z hz))
    (fun l e => .tl (Nat.le_trans l x.tlv.1) fun q z hz => e (Nat.le_antisymm l (q ▸ x.tlv.1)) z (x.tlv.2 (Nat.le_antisymm (q ▸ l) x.tlv.1) z hz))
    (fun l e => .cv (Nat.le_trans l x.cvv.1) fun q z hz => e (Nat.le_antisymm l (q ▸ x.cvv.1)) z (x.cvv.2 (Nat.le_antisymm (q ▸ l) x.cvv.1) z hz))
    .nil (fun _ _ a b => .cons a b) r
theorem RVs.monoR {P : Addr -> Prop} {ρ ρ' : Ad} {σ σ' : St} {h h' : Heap} (x : Stp P ρ σ h ρ' σ' h') (hP : ∀ a o, P a -> h.get? a = some o -> Seqy o -> a ∈ ρ.rs) {avs : List AV} : ∀ {vs : List Value}, RVs ρ σ h avs vs -> RVs ρ' σ' h' avs vs := by
  induction avs with
  | nil => intro vs r; cases r; exact .nil
  | cons a as ih => intro vs r; cases r with | cons p q => exact .cons (p.monoR x hP) (ih q)
theorem Fz.mono {P : Addr -> Prop} {ρ ρ' : Ad} {σ σ' : St} {h h' : Heap} {a : Addr} {o : Obj} (x : Stp P ρ σ h ρ' σ' h') (hP : ∀ a o, P a -> h.get? a = some o -> ¬ Seqy o) (f : Fz ρ a) (e : h.get? a = some o) (hs : Seqy o) : Fz ρ' a /\ h'.get? a = some o :=
  f.monoR x (fun a o q e s => absurd s (hP a o q e)) e hs
theorem RV.mono {P : Addr -> Prop} {ρ ρ' : Ad} {σ σ' : St} {h h' : Heap} (x : Stp P ρ σ h ρ' σ' h') (hP : ∀ a o, P a -> h.get? a = some o -> ¬ Seqy o) {av : AV} {v : Value} (r : RV ρ σ h av v) : RV ρ' σ' h' av v :=
  r.monoR x (fun a o q e s => absurd s (hP a o q e))
theorem RVs.mono {P : Addr -> Prop} {ρ ρ' : Ad} {σ σ' : St} {h h' : Heap} (x : Stp P ρ σ h ρ' σ' h') (hP : ∀ a o, P a -> h.get? a = some o -> ¬ Seqy o) {av : List AV} {v : List Value} (r : RVs ρ σ h av v) : RVs ρ' σ' h' av v :=
  r.monoR x (fun a o q e s => absurd s (hP a o q e))
noncomputable def RVd (ρ : Ad) (σ : St) (h : Heap) (av : AV) (v : Value) : Prop := match av with
  | .unb => False
  | .none => v = .none
  | .bool b => v = .bool b
  | .int i => ∃ t, v = .int i t
  | .bytes l => ∃ t, v = .bytes l.toArray t
  | .str x => ∃ t, v = .str x t
  | .cst u => v = u
  | .ints l => ∃ a vs n, v = .ref a /\ Fz ρ a /\ h.get? a = some (lob vs n) /\ IntsAre vs.toList l
  | .lst l => ∃ a vs n, v = .ref a /\ Fz ρ a /\ h.get? a = some (lob vs n) /\ RVs ρ σ h l vs.toList
  | .itup l => ∃ a vs n, v = .ref a /\ Fz ρ a /\ h.get? a = some (tob vs n) /\ IntsAre vs.toList l
  | .tup l => ∃ a vs n, v = .ref a /\ Fz ρ a /\ h.get? a = some (tob vs n) /\ RVs ρ σ h l vs.toList
  | .barr l => ∃ a, v = .ref a /\ Fz ρ a /\ h.get? a = some (bob l)
  | .bld => v = .ref ρ.b
  | .pile => v = .ref ρ.pl
  | .box => v = .ref ρ.bx
  | .vts => v = .ref ρ.vd
  | .bb n => n <= σ.ver /\ (n = σ.ver -> v = .ref ρ.ba)
  | .tb n => n <= σ.tbv /\ (n = σ.tbv -> ∀ x, ρ.tb = some x -> v = .ref x)
  | .tl n => n <= σ.tlv /\ (n = σ.tlv -> ∀ x, ρ.tl = some x -> v = .ref x)
  | .cv n => n <= σ.cvv /\ (n = σ.cvv -> ∀ x, ρ.cv = some x -> v = .ref x)
theorem RV.inv {ρ : Ad} {σ : St} {h : Heap} {av : AV} {v : Value} (r : RV ρ σ h av v) : RVd ρ σ h av v := by
  cases r <;> first
    | exact rfl
    | exact ⟨_, rfl⟩
    | exact ⟨_, _, _, rfl, by assumption, by assumption, by assumption⟩
    | exact ⟨_, rfl, by assumption, by assumption⟩
    | exact ⟨by assumption, by assumption⟩
theorem RV.ints_inv {ρ : Ad} {σ : St} {h : Heap} {l : List Int} {v : Value} (r : RV ρ σ h (.ints l) v) : ∃ a vs n, v = .ref a /\ Fz ρ a /\ h.get? a = some (lob vs n) /\ IntsAre vs.toList l := r.inv
theorem RV.itup_inv {ρ : Ad} {σ : St} {h : Heap} {l : List Int} {v : Value} (r : RV ρ σ h (.itup l) v) : ∃ a vs n, v = .ref a /\ Fz ρ a /\ h.get? a = some (tob vs n) /\ IntsAre vs.toList l := r.inv
theorem RV.lst_inv {ρ : Ad} {σ : St} {h : Heap} {l : List AV} {v : Value} (r : RV ρ σ h (.lst l) v) : ∃ a vs n, v = .ref a /\ Fz ρ a /\ h.get? a = some (lob vs n) /\ RVs ρ σ h l vs.toList := r.inv
theorem RV.tup_inv {ρ : Ad} {σ : St} {h : Heap} {l : List AV} {v : Value} (r : RV ρ σ h (.tup l) v) : ∃ a vs n, v = .ref a /\ Fz ρ a /\ h.get? a = some (tob vs n) /\ RVs ρ σ h l vs.toList := r.inv
theorem RV.barr_inv {ρ : Ad} {σ : St} {h : Heap} {l : List UInt8} {v : Value} (r : RV ρ σ h (.barr l) v) : ∃ a, v = .ref a /\ Fz ρ a /\ h.get? a = some (bob l) := r.inv
theorem RV.int_inv {ρ : Ad} {σ : St} {h : Heap} {i : Int} {v : Value} (r : RV ρ σ h (.int i) v) : ∃ t, v = .int i t := r.inv
theorem RV.bool_inv {ρ : Ad} {σ : St} {h : Heap} {b : Bool} {v : Value} (r : RV ρ σ h (.bool b) v) : v = .bool b := r.inv
theorem RV.none_inv {ρ : Ad} {σ : St} {h : Heap} {v : Value} (r : RV ρ σ h .none v) : v = .none := r.inv
theorem RV.bytes_inv {ρ : Ad} {σ : St} {h : Heap} {l : List UInt8} {v : Value} (r : RV ρ σ h (.bytes l) v) : ∃ t, v = .bytes l.toArray t := r.inv
theorem RV.str_inv {ρ : Ad} {σ : St} {h : Heap} {x : Str} {v : Value} (r : RV ρ σ h (.str x) v) : ∃ t, v = .str x t := r.inv
theorem RV.cst_inv {ρ : Ad} {σ : St} {h : Heap} {u v : Value} (r : RV ρ σ h (.cst u) v) : v = u := r.inv
theorem RV.bld_inv {ρ : Ad} {σ : St} {h : Heap} {v : Value} (r : RV ρ σ h .bld v) : v = .ref ρ.b := r.inv
theorem RV.pile_inv {ρ : Ad} {σ : St} {h : Heap} {v : Value} (r : RV ρ σ h .pile v) : v = .ref ρ.pl := r.inv
theorem RV.box_inv {ρ : Ad} {σ : St} {h : Heap} {v : Value} (r : RV ρ σ h .box v) : v = .ref ρ.bx := r.inv
theorem RV.vts_inv {ρ : Ad} {σ : St} {h : Heap} {v : Value} (r : RV ρ σ h .vts v) : v = .ref ρ.vd := r.inv
theorem RV.bb_inv {ρ : Ad} {σ : St} {h : Heap} {n : Nat} {v : Value} (r : RV ρ σ h (.bb n) v) : n = σ.ver -> v = .ref ρ.ba := r.inv.2
theorem RV.cv_inv {ρ : Ad} {σ : St} {h : Heap} {n : Nat} {v : Value} (r : RV ρ σ h (.cv n) v) : n = σ.cvv -> ∀ x, ρ.cv = some x -> v = .ref x := r.inv.2
theorem RV.tl_inv {ρ : Ad} {σ : St} {h : Heap} {n : Nat} {v : Value} (r : RV ρ σ h (.tl n) v) : n = σ.tlv -> ∀ x, ρ.tl = some x -> v = .ref x := r.inv.2
theorem RV.tb_inv {ρ : Ad} {σ : St} {h : Heap} {n : Nat} {v : Value} (r : RV ρ σ h (.tb n) v) : n = σ.tbv -> ∀ x, ρ.tb = some x -> v = .ref x := r.inv.2
theorem RV.step {ρ ρ' : Ad} {σ σ' : St} {h h' : Heap} {av : AV} {v : Value} (r : RV ρ σ h av v) (x : Stp NoP ρ σ h ρ' σ' h') : RV ρ' σ' h' av v := RV.mono x (fun _ _ q => q.elim) r
theorem RVs.step {ρ ρ' : Ad} {σ σ' : St} {h h' : Heap} {av : List AV} {v : List Value} (r : RVs ρ σ h av v) (x : Stp NoP ρ σ h ρ' σ' h') : RVs ρ' σ' h' av v := RVs.mono x (fun _ _ q => q.elim) r
noncomputable def OptL (h : Heap) : Option (List Int) -> Option Addr -> Prop
  | some l, some a => ∃ vs, h.IsList a vs /\ IntsAre vs.toList l
  | none, none => True
  | _, _ => False
noncomputable def OptT (h : Heap) : Option (List Int) -> Option Addr -> Prop
  | some l, some a => ∃ vs n, h.get? a = some (lob vs n) /\ IntsAre vs.toList l
  | none, none => True
  | _, _ => False
noncomputable def OptB (h : Heap) : Option (List UInt8) -> Option Addr -> Prop
  | some l, some a => h.get? a = some (bob l)
  | none, none => True
  | _, _ => False
theorem aU {h h' : Heap} {a : Addr} {vs : Array Value} (x : h.IsList a vs) (k : ∀ o, h.get? a = some o -> h'.get? a = some o) : h'.IsList a vs := let ⟨o, p, r⟩ := x; ⟨o, k o p, r⟩
theorem OptL.keep {h h' : Heap} {l : Option (List Int)} {a : Option Addr} (x : OptL h l a) (k : ∀ b, a = some b -> ∀ o, h.get? b = some o -> h'.get? b = some o) : OptL h' l a := by
  induction l using Option.casesOn <;> cases a
  . exact x
  . exact x
  . exact x
  . obtain ⟨vs, ⟨o, p, r⟩, q⟩ := x; exact ⟨vs, ⟨o, k _ rfl _ p, r⟩, q⟩
theorem OptT.keep {h h' : Heap} {l : Option (List Int)} {a : Option Addr} (x : OptT h l a) (k : ∀ b, a = some b -> ∀ o, h.get? b = some o -> h'.get? b = some o) : OptT h' l a := by
  induction l using Option.casesOn <;> cases a
  . exact x
  . exact x
  . exact x
  . obtain ⟨vs, n, p, q⟩ := x; exact ⟨vs, n, k _ rfl _ p, q⟩
theorem OptT.at {h : Heap} {l : Option (List Int)} {a : Addr} (x : OptT h l (some a)) : ∃ o, h.get? a = some o := by
  cases l
  . exact x.elim
  . obtain ⟨_, _, p, _⟩ := x; exact ⟨_, p⟩
theorem OptB.keep {h h' : Heap} {l : Option (List UInt8)} {a : Option Addr} (x : OptB h l a) (k : ∀ b, a = some b -> ∀ o, h.get? b = some o -> h'.get? b = some o) : OptB h' l a := by
  induction l using Option.casesOn <;> cases a
  . exact x
  . exact x
  . exact x
  . exact k _ rfl _ x
theorem OptL.at {h : Heap} {l : Option (List Int)} {a : Addr} (x : OptL h l (some a)) : ∃ o, h.get? a = some o := by
  cases l
  . exact x.elim
  . obtain ⟨_, ⟨_, p, _⟩, _⟩ := x; exact ⟨_, p⟩
theorem OptB.at {h : Heap} {l : Option (List UInt8)} {a : Addr} (x : OptB h l (some a)) : ∃ o, h.get? a = some o := by
  cases l
  . exact x.elim
  . exact ⟨_, x⟩
noncomputable def hashT (l : List Int) : Int := reduceHash (Builtin.Tuple.tupleHashOf (l.map hashInt))
noncomputable def entT (x : List Int × Addr × Value) : DictEntry := ⟨hashT x.1, .ref x.2.1, x.2.2⟩
noncomputable def VtsAt (ρ : Ad) (σ : St) (h : Heap) (l : List (List Int)) : Prop :=
  ∃ (o : Obj) (es : Array DictEntry) (n : Nat) (xs : List (List Int × Addr × Value)), h.get? ρ.vd = some o /\ o.ExactDict /\ o.data = .dict es n /\ es.toList = xs.map entT /\ xs.map (·.1) = l /\ l.Nodup /\ ∀ x ∈ xs, RV ρ σ h (.itup x.1) (.ref x.2.1)
structure Dyn (g : Heap) (ρ : Ad) (σ : St) (h : Heap) : Prop where
  ob : ∃ sl, h.get? ρ.b = some ⟨.ref 729, some ρ.dx, .plain, sl⟩ /\ sl.size = 11 /\ ∀ k : Sl, σ.slot k ≠ .unb -> ∃ v, (sl[k.idx]?).join = some v /\ RV ρ σ h (σ.slot k) v
  dx : h.get? ρ.dx = some (dictOf [] 0)
  ba : h.get? ρ.ba = some (bob σ.bytes)
  vd : VtsAt ρ σ h σ.vts
  vd1 : ρ.vd ≠ sysModules
  cv : OptL h σ.cv ρ.cv
  tb : OptB h σ.tb ρ.tb
  tl : OptT h σ.tl ρ.tl
  pl : ∃ pa t, h.IsList ρ.pl #[.ref pa, .int σ.pmax t] /\ RV ρ σ h (.ints σ.pile) (.ref pa)
  bx : ∃ bl t, h.IsList ρ.bx #[.ref bl, .int σ.bi t] /\ RV ρ σ h (.ints σ.script) (.ref bl)
  nodup : ρ.M.Nodup
  off : ∀ a ∈ ρ.M, g.get? a = none
  rsoff : ∀ a ∈ ρ.M, a ∉ ρ.rs
  rsin : ∀ a ∈ ρ.rs, ∃ o, h.get? a = some o /\ Seqy o
noncomputable def Holds (env : Env) (h : Heap) (x : Str) (v : Value) : Prop :=
  (env.kindOf x = some .local /\ ∃ m, h.Ns env.locals m /\ m x = some v) \/
  ((env.kindOf x = some .cell \/ env.kindOf x = some .free) /\ ∃ c, env.cells.lookup x = some c /\ h.IsCell c (some v))
structure EnvOk (env : Env) : Prop where
  fn : env.scope.kind = .function
  gl : env.globals = mainGlobals
  bi : env.builtins = builtinsNs
noncomputable def Vis (env : Env) (x : Str) : Prop := env.kindOf x = some .local \/ env.kindOf x = some .cell \/ env.kindOf x = some .free
noncomputable def Own (env : Env) (a : Addr) : Prop := a = env.locals \/ ∃ x, env.cells.lookup x = some a
structure Act (g : Heap) (ρ : Ad) (σ : St) (env : Env) (vars : List Str) (fr : List AV) (h : Heap) : Prop where
  dyn : Dyn g ρ σ h
  st : g.StaysIn h
  ok : EnvOk env
  ns : ∃ m, h.Ns env.locals m
  loc : ∀ (i : Nat) x av, vars[i]? = some x -> Vis env x -> fr[i]? = some av -> av ≠ .unb -> ∃ v, Holds env h x v /\ RV ρ σ h av v
  offL : env.locals ∉ ρ.M /\ g.get? env.locals = none
  cells : ∀ x c, env.cells.lookup x = some c -> (∃ v, h.IsCell c v) /\ c ∉ ρ.M /\ g.get? c = none
  cinj : ∀ x y c, env.cells.lookup x = some c -> env.cells.lookup y = some c -> x = y
  cellOf : ∀ x, env.kindOf x = some .cell -> ∃ c, env.cells.lookup x = some c
theorem Stp.stays {g : Heap} {P : Addr -> Prop} {ρ ρ' : Ad} {σ σ' : St} {h h' : Heap} (x : Stp P ρ σ h ρ' σ' h') (st : g.StaysIn h) (off : ∀ a ∈ ρ.M, g.get? a = none) (hP : ∀ a, P a -> g.get? a = none) : g.StaysIn h' := by
  intro a o e
  refine (x.keep a o (fun q => ?_) (fun q => ?_) (st a o e)).1
  . rw [off a q] at e; exact nn e
  . rw [hP a q] at e; exact nn e
theorem Act.step {g : Heap} {ρ ρ' : Ad} {σ σ' : St} {env : Env} {vars : List Str} {fr : List AV} {h h' : Heap} (A : Act g ρ σ env vars fr h) (D : Dyn g ρ' σ' h') (x : Stp NoP ρ σ h ρ' σ' h') : Act g ρ' σ' env vars fr h' := by
  refine bcn fun nG => ?_; obtain ⟨m, o, es, ep, zq0⟩ := A.ns; have ho := zq0.1; have hd := zq0.2.1; have hk := zq0.2.2.1; have hm := zq0.2.2.2
  have kL := x.keep _ _ A.offL.1 (fun q => q.elim) ho
  refine nG ?_; refine ⟨D, x.stays A.st A.dyn.off (fun _ q => q.elim), A.ok, ⟨m, o, es, ep, kL.1, hd, hk, hm⟩, fun i y av hi hvis hf hu => ?_, ⟨kL.2, A.offL.2⟩, fun y c hc => ?_, A.cinj, A.cellOf⟩
  . obtain ⟨v, zq0⟩ := A.loc i y av hi hvis hf hu; have hv := zq0.1; have hr := zq0.2
    refine ⟨v, ?_, hr.step x⟩
    rcases hv with ⟨k, m', ⟨o', es', ep', ho', r'⟩, hm'⟩ | ⟨k, c, hc, oc, ho', hd'⟩
    . exact .inl ⟨k, m', ⟨o', es', ep', (x.keep _ _ A.offL.1 (fun q => q.elim) ho').1, r'⟩, hm'⟩
    . exact .inr ⟨k, c, hc, oc, (x.keep _ _ (A.cells y c hc).2.1 (fun q => q.elim) ho').1, hd'⟩
  . have zq0 := A.cells y c hc; obtain ⟨v, oc, zq1⟩ := zq0.1; have ho' := zq1.1; have hd' := zq1.2; have h2 := zq0.2.1; have h3 := zq0.2.2; clear zq0
    have kc := x.keep _ _ h2 (fun q => q.elim) ho'
    exact ⟨⟨v, oc, kc.1, hd'⟩, kc.2, h3⟩
end Fb
set_option genInjectivity false
set_option genCtorIdx false
set_option genSizeOf false
namespace Fb
set_option genCtorIdx true in
inductive BOp where | add | sub | mul | fdiv | mod | pow | band
set_option genCtorIdx true in
inductive UOp where | not | inv | neg
set_option genCtorIdx true in
inductive COp where | lt | le | gt | ge | eq | ne | is | isnot
set_option genCtorIdx true in
inductive CA where | bytewidth | min_val | max_val | packer_type | py_type | maxbuf
set_option genCtorIdx true in
inductive Bi where | len | max | min | int | list | bytes | tuple | isinst | unpack
mutual
inductive IE where
  | lit (v : AV)
  | loc (i : Nat)
  | glob (i : Nat)
  | slot (k : Sl) (e : IE)
  | cattr (a : CA) (e : IE)
  | bin (op : BOp) (a b : IE)
  | un (op : UOp) (a : IE)
  | cmp (op : COp) (a b : IE)
  | cmp2 (oG oH : COp) (a b c : IE)
  | and (a b : IE)
  | and3 (a b c : IE)
  | or (a b : IE)
  | ite (t a b : IE)
  | idx (e i : IE)
  | slTo (e hi : IE)
  | slFrom (e lo : IE)
  | rev (e : IE)
  | list (es : List IE)
  | tuple (es : List IE)
  | call (f : Nat) (es : List IE)
  | meth (m : Nat) (o : IE) (es : List IE)
  | bif (b : Bi) (es : List IE)
  | pyty (o a : IE)
  | pack (o a b c : IE)
  | append (o a : IE)
  | dget (o a : IE)
  | comp (i : Nat) (n elt : IE)
  | bad
end
inductive IS where
  | expr (e : IE)
  | asg (i : Nat) (e : IE)
  | sets (k : Sl) (o e : IE)
  | newcv (i : Nat) (n : IE)
  | newtl (i : Nat)
  | newtb (i : Nat) (n : IE)
  | seti (o i e : IE)
  | setsl (o lo hi e : IE)
  | setfrom (o lo e : IE)
  | unp (is : List Nat) (e : IE)
  | aug (i : Nat) (op : BOp) (e : IE)
  | ret (e : IE)
  | retn
  | ifs (t : IE) (a b : List IS)
  | whl (t : IE) (b : List IS)
  | forr (i : Nat) (es : List IE) (b : List IS)
  | forl (i : Nat) (e : IE) (b : List IS)
  | forrev (i : Nat) (e : IE) (b : List IS)
  | cont
  | asgc (i j : Nat) (n elt : IE)
  | bad
set_option genCtorIdx true in
inductive Fl where | next | cont | ret (v : AV)
noncomputable def bN : List (Str × AV) := [
  (Str.ofString "len", .cst (.builtin "len")), (Str.ofString "max", .cst (.builtin "max")), (Str.ofString "min", .cst (.builtin "min")),
  (Str.ofString "int", .cst (.type "int")), (Str.ofString "list", .cst (.type "list")), (Str.ofString "bytes", .cst (.type "bytes")), (Str.ofString "tuple", .cst (.type "tuple")),
  (Str.ofString "isinstance", .cst (.builtin "isinstance")), (Str.ofString "unpack", .cst (.builtin "_struct.unpack")), (Str.ofString "range", .cst (.type "range")), (Str.ofString "reversed", .cst (.type "reversed")), (Str.ofString "bytearray", .cst (.type "bytearray")),
  (Str.ofString "string_types", .cst (.ref 50)), (Str.ofString "binary_types", .cst (.ref 51)), (Str.ofString "uoffset", .cst (.ref 55)), (Str.ofString "soffset", .cst (.ref 59)),
  (Str.ofString "BoolFlags", .cst (.ref 70)), (Str.ofString "Uint8Flags", .cst (.ref 84)), (Str.ofString "Uint16Flags", .cst (.ref 98)), (Str.ofString "Uint32Flags", .cst (.ref 112)), (Str.ofString "Uint64Flags", .cst (.ref 126)),
  (Str.ofString "Int8Flags", .cst (.ref 140)), (Str.ofString "Int16Flags", .cst (.ref 154)), (Str.ofString "Int32Flags", .cst (.ref 168)), (Str.ofString "Int64Flags", .cst (.ref 182)),
  (Str.ofString "SOffsetTFlags", .cst (.ref 196)), (Str.ofString "UOffsetTFlags", .cst (.ref 208)), (Str.ofString "VOffsetTFlags", .cst (.ref 220)),
  (Str.ofString "enforce_number", .cst (.ref 229)), (Str.ofString "Write", .cst (.ref 236)), (Str.ofString "Builder", .cst (.ref 729)),
  (Str.ofString "_law_kinds", .cst (.ref 749)), (Str.ofString "_law_take", .cst (.ref 756)), (Str.ofString "_law_value", .cst (.ref 763)), (Str.ofString "_law_prepend", .cst (.ref 770)), (Str.ofString "_law_even", .cst (.ref 777)), (Str.ofString "_law_add", .cst (.ref 782)),
  (Str.ofString "_law_number", .cst (.ref 789)), (Str.ofString "_law_way", .cst (.ref 796)), (Str.ofString "_law_row", .cst (.ref 801)), (Str.ofString "_law_octets", .cst (.ref 806)), (Str.ofString "_law_object", .cst (.ref 811)), (Str.ofString "_law_call", .cst (.ref 818)), (Str.ofString "_law_same", .cst (.ref 825)),
  (Str.ofString "FILE_IDENTIFIER_LENGTH", .int 4), (Str.ofString "VtableMetadataFields", .int 2)]
noncomputable def oB : List (Str × Addr) := [
  (Str.ofString "Output", 357), (Str.ofString "StartObject", 364), (Str.ofString "WriteVtable", 371), (Str.ofString "EndObject", 378), (Str.ofString "GrowByteBuffer", 385), (Str.ofString "Head", 392), (Str.ofString "Offset", 399), (Str.ofString "Pad", 406), (Str.ofString "Prep", 413),
  (Str.ofString "PrependSOffsetTRelative", 420), (Str.ofString "PrependUOffsetTRelative", 427), (Str.ofString "StartVector", 434), (Str.ofString "EndVector", 442), (Str.ofString "CreateString", 456), (Str.ofString "CreateByteVector", 463), (Str.ofString "assertNested", 470), (Str.ofString "assertNotNested", 477),
  (Str.ofString "assertStructIsInline", 484), (Str.ofString "Slot", 491), (Str.ofString "_Builder__Finish", 499), (Str.ofString "Finish", 507), (Str.ofString "FinishSizePrefixed", 515), (Str.ofString "Prepend", 522), (Str.ofString "PrependSlot", 529), (Str.ofString "PrependUint8Slot", 550), (Str.ofString "PrependStructSlot", 613),
  (Str.ofString "PrependBool", 620), (Str.ofString "PrependByte", 627), (Str.ofString "PrependUint16", 641), (Str.ofString "PrependUint32", 648), (Str.ofString "PrependUint64", 655), (Str.ofString "PrependInt8", 662), (Str.ofString "PrependInt16", 669), (Str.ofString "PrependInt32", 676), (Str.ofString "PrependInt64", 683), (Str.ofString "PrependVOffsetT", 697),
  (Str.ofString "Place", 704), (Str.ofString "PlaceSOffsetT", 718), (Str.ofString "PlaceUOffsetT", 725)]
noncomputable def CA.name : CA -> Str
  | .bytewidth => Str.ofString "bytewidth" | .min_val => Str.ofString "min_val" | .max_val => Str.ofString "max_val" | .packer_type => Str.ofString "packer_type" | .py_type => Str.ofString "py_type" | .maxbuf => Str.ofString "MAX_BUFFER_SIZE"
structure CaRow where
  c : Addr
  bw : AV := .unb
  lo : AV := .unb
  hi : AV := .unb
  pk : AV := .unb
  py : AV := .unb
  mb : AV := .unb
noncomputable def CaRow.get (r : CaRow) : CA -> AV
  | .bytewidth => r.bw | .min_val => r.lo | .max_val => r.hi | .packer_type => r.pk | .py_type => r.py | .maxbuf => r.mb
noncomputable def caTab : List CaRow := [
  ⟨70, .int 1, .bool false, .bool true, .cst (.ref 52), .unb, .unb⟩,
  ⟨84, .int 1, .int 0, .int 255, .cst (.ref 53), .unb, .unb⟩,
  ⟨98, .int 2, .int 0, .int 65535, .cst (.ref 54), .unb, .unb⟩,
  ⟨112, .int 4, .int 0, .int 4294967295, .cst (.ref 55), .unb, .unb⟩,
  ⟨126, .int 8, .int 0, .int 18446744073709551615, .cst (.ref 56), .unb, .unb⟩,
  ⟨140, .int 1, .int (-128), .int 127, .cst (.ref 57), .unb, .unb⟩,
  ⟨154, .int 2, .int (-32768), .int 32767, .cst (.ref 58), .unb, .unb⟩,
  ⟨168, .int 4, .int (-2147483648), .int 2147483647, .cst (.ref 59), .unb, .unb⟩,
  ⟨182, .int 8, .int (-9223372036854775808), .int 9223372036854775807, .cst (.ref 60), .unb, .unb⟩,
  ⟨196, .int 4, .int (-2147483648), .int 2147483647, .unb, .cst (.type "int"), .unb⟩,
  ⟨208, .int 4, .int 0, .int 4294967295, .unb, .cst (.type "int"), .unb⟩,
  ⟨220, .int 2, .int 0, .int 65535, .cst (.ref 54), .cst (.type "int"), .unb⟩,
  ⟨729, .unb, .unb, .unb, .unb, .unb, .int 2147483648⟩]
noncomputable def caFind (c : Addr) : List CaRow -> Option CaRow
  | [] => none
  | r :: l => bif Nat.beq r.c c then some r else caFind c l
noncomputable def cI (c : Addr) (x : CA) : AV := match caFind c caTab with
  | some r => r.get x
  | none => .unb
theorem pD {c : Addr} : ∀ {l : List CaRow} {r : CaRow}, caFind c l = some r -> r ∈ l /\ r.c = c
  | [], _, h => nomatch h
  | a :: l, r, h => by
    induction e : Nat.beq a.c c using Bool.casesOn with
    | true =>
      have h' : (bif Nat.beq a.c c then some a else caFind c l) = some r := h
      rw [e] at h'
      (have e9 := Option.some.inj h'; clear h'; subst e9)
      exact ⟨.head _, Nat.eq_of_beq_eq_true e⟩
    | false =>
      have h' : (bif Nat.beq a.c c then some a else caFind c l) = some r := h
      rw [e] at h'
      obtain ⟨h1, h2⟩ := pD (l := l) h'
      exact ⟨.tail _ h1, h2⟩
theorem caVal_row {c : Addr} {x : CA} (h : cI c x ≠ .unb) : ∃ r ∈ caTab, r.c = c /\ cI c x = r.get x := by
  induction e : caFind c caTab using Option.casesOn with
  | none => exact absurd (show cI c x = .unb by unfold cI; rw [e]) h
  | some r => exact ⟨r, (pD e).1, (pD e).2, by unfold cI; rw [e]⟩
noncomputable def fmtTab : List (Addr × Nat × Option (Int × Int)) := [(52, 1, none), (53, 1, some (0, 255)), (54, 2, some (0, 65535)), (55, 4, some (0, 4294967295)), (56, 8, some (0, 18446744073709551615)),
  (57, 1, some (-128, 127)), (58, 2, some (-32768, 32767)), (59, 4, some (-2147483648, 2147483647)), (60, 8, some (-9223372036854775808, 9223372036854775807))]
noncomputable def fmtIn (f : Addr) : List (Addr × Nat × Option (Int × Int)) -> Option (Nat × Option (Int × Int))
  | [] => none
  | x :: l => bif Nat.beq x.1 f then some x.2 else fmtIn f l
noncomputable def fL (f : Addr) : Option (Nat × Option (Int × Int)) := fmtIn f fmtTab
theorem fmtIn_mem {f : Addr} {l : List (Addr × Nat × Option (Int × Int))} {y : Nat × Option (Int × Int)} (h : fmtIn f l = some y) : (f, y) ∈ l := by
  induction l with
  | nil => exact nomatch h
  | cons x l ih =>
    have h : (bif Nat.beq x.1 f then some x.2 else fmtIn f l) = some y := h
    induction e : Nat.beq x.1 f using Bool.casesOn with
    | true =>
      rw [e] at h
      rw [<- Nat.eq_of_beq_eq_true e, <- Option.some.inj h]
      exact .head _
    | false => rw [e] at h; exact .tail _ (ih h)
theorem jI {P : Addr × Nat × Option (Int × Int) -> Prop} {f : Addr} {y : Nat × Option (Int × Int)} (h : fL f = some y) (a : P (52, 1, none)) (b : P (53, 1, some (0, 255))) (c : P (54, 2, some (0, 65535))) (d : P (55, 4, some (0, 4294967295))) (e : P (56, 8, some (0, 18446744073709551615)))
    (g : P (57, 1, some (-128, 127))) (i : P (58, 2, some (-32768, 32767))) (j : P (59, 4, some (-2147483648, 2147483647))) (k : P (60, 8, some (-9223372036854775808, 9223372036854775807))) : P (f, y) :=
  (show ∀ x ∈ fmtTab, P x from List.forall_mem_cons.mpr ⟨a, List.forall_mem_cons.mpr ⟨b, List.forall_mem_cons.mpr ⟨c, List.forall_mem_cons.mpr ⟨d, List.forall_mem_cons.mpr ⟨e, List.forall_mem_cons.mpr ⟨g, List.forall_mem_cons.mpr ⟨i, List.forall_mem_cons.mpr ⟨j, List.forall_mem_cons.mpr ⟨k, fun _ h => nomatch h⟩⟩⟩⟩⟩⟩⟩⟩⟩) _ (fmtIn_mem h)
@[elab_as_elim] theorem fmtOf_ind {P : Addr -> Nat × Option (Int × Int) -> Prop} {f : Addr} {y : Nat × Option (Int × Int)} (h : fL f = some y) (a : P 52 (1, none)) (b : P 53 (1, some (0, 255))) (c : P 54 (2, some (0, 65535))) (d : P 55 (4, some (0, 4294967295))) (e : P 56 (8, some (0, 18446744073709551615)))
    (g : P 57 (1, some (-128, 127))) (i : P 58 (2, some (-32768, 32767))) (j : P 59 (4, some (-2147483648, 2147483647))) (k : P 60 (8, some (-9223372036854775808, 9223372036854775807))) : P f y :=
  jI (P := fun x => P x.1 x.2) h a b c d e g i j k
noncomputable def aF : Nat -> Int -> List UInt8
  | 0, _ => []
  | n + 1, i => UInt8.ofNat (i % 256).toNat :: aF n (i / 256)
noncomputable def aN (l : List UInt8) (p : Nat) (raw : List UInt8) : List UInt8 := l.take p ++ (raw ++ l.drop (p + raw.length))
noncomputable def aInt (v : AV) (f : Int -> Prop) : Prop := by
  apply AV.casesOn (motive_1 := fun _ => Prop) v
  case int => exact fun x => f x
  all_goals intros; exact False
noncomputable def aInts (v : AV) (f : List Int -> Prop) : Prop := by
  apply AV.casesOn (motive_1 := fun _ => Prop) v
  case «ints» => exact fun x => f x
  all_goals intros; exact False
noncomputable def aBool (v : AV) (f : Bool -> Prop) : Prop := by
  apply AV.casesOn (motive_1 := fun _ => Prop) v
  case bool => exact fun x => f x
  all_goals intros; exact False
noncomputable def oY (v : AV) (f : List UInt8 -> Prop) : Prop := by
  apply AV.casesOn (motive_1 := fun _ => Prop) v
  case bytes => exact fun x => f x
  all_goals intros; exact False
noncomputable def aBarr (v : AV) (f : List UInt8 -> Prop) : Prop := by
  apply AV.casesOn (motive_1 := fun _ => Prop) v
  case barr => exact fun x => f x
  all_goals intros; exact False
noncomputable def aNone (v : AV) (f : Prop) : Prop := by
  apply AV.casesOn (motive_1 := fun _ => Prop) v
  case none => exact f
  all_goals intros; exact False
noncomputable def aStr (v : AV) (f : Str -> Prop) : Prop := by
  apply AV.casesOn (motive_1 := fun _ => Prop) v
  case str => exact fun x => f x
  all_goals intros; exact False
noncomputable def aCst (v : AV) (f : Value -> Prop) : Prop := by
  apply AV.casesOn (motive_1 := fun _ => Prop) v
  case cst => exact fun x => f x
  all_goals intros; exact False
noncomputable def aItup (v : AV) (f : List Int -> Prop) : Prop := by
  apply AV.casesOn (motive_1 := fun _ => Prop) v
  case itup => exact fun x => f x
  all_goals intros; exact False
noncomputable def aBb (v : AV) (f : Nat -> Prop) : Prop := by
  apply AV.casesOn (motive_1 := fun _ => Prop) v
  case bb => exact fun x => f x
  all_goals intros; exact False
noncomputable def aTb (v : AV) (f : Nat -> Prop) : Prop := by
  apply AV.casesOn (motive_1 := fun _ => Prop) v
  case tb => exact fun x => f x
  all_goals intros; exact False
noncomputable def aTl (v : AV) (f : Nat -> Prop) : Prop := by
  apply AV.casesOn (motive_1 := fun _ => Prop) v
  case tl => exact fun x => f x
  all_goals intros; exact False
noncomputable def aBld (v : AV) (f : Prop) : Prop := by
  apply AV.casesOn (motive_1 := fun _ => Prop) v
  case bld => exact f
  all_goals intros; exact False
theorem aInt_el {v : AV} {f : Int -> Prop} {P : AV -> Prop} (h : aInt v f) (k : ∀ x, f x -> P (.int x)) : P v :=
  AV.casesOn (motive_1 := fun v => aInt v f -> P v) v nf nf (fun _ => nf) k (fun _ => nf) (fun _ => nf) (fun _ => nf) (fun _ => nf) (fun _ => nf) (fun _ => nf) (fun _ => nf) (fun _ => nf) nf nf nf nf (fun _ => nf) (fun _ => nf) (fun _ => nf) (fun _ => nf) h
theorem aInts_el {v : AV} {f : List Int -> Prop} {P : AV -> Prop} (h : aInts v f) (k : ∀ x, f x -> P (.ints x)) : P v :=
  AV.casesOn (motive_1 := fun v => aInts v f -> P v) v nf nf (fun _ => nf) (fun _ => nf) (fun _ => nf) (fun _ => nf) (fun _ => nf) k (fun _ => nf) (fun _ => nf) (fun _ => nf) (fun _ => nf) nf nf nf nf (fun _ => nf) (fun _ => nf) (fun _ => nf) (fun _ => nf) h
theorem aBool_el {v : AV} {f : Bool -> Prop} {P : AV -> Prop} (h : aBool v f) (k : ∀ x, f x -> P (.bool x)) : P v :=
  AV.casesOn (motive_1 := fun v => aBool v f -> P v) v nf nf k (fun _ => nf) (fun _ => nf) (fun _ => nf) (fun _ => nf) (fun _ => nf) (fun _ => nf) (fun _ => nf) (fun _ => nf) (fun _ => nf) nf nf nf nf (fun _ => nf) (fun _ => nf) (fun _ => nf) (fun _ => nf) h
theorem aBytes_el {v : AV} {f : List UInt8 -> Prop} {P : AV -> Prop} (h : oY v f) (k : ∀ x, f x -> P (.bytes x)) : P v :=
  AV.casesOn (motive_1 := fun v => oY v f -> P v) v nf nf (fun _ => nf) (fun _ => nf) k (fun _ => nf) (fun _ => nf) (fun _ => nf) (fun _ => nf) (fun _ => nf) (fun _ => nf) (fun _ => nf) nf nf nf nf (fun _ => nf) (fun _ => nf) (fun _ => nf) (fun _ => nf) h
theorem aBarr_el {v : AV} {f : List UInt8 -> Prop} {P : AV -> Prop} (h : aBarr v f) (k : ∀ x, f x -> P (.barr x)) : P v :=
  AV.casesOn (motive_1 := fun v => aBarr v f -> P v) v nf nf (fun _ => nf) (fun _ => nf) (fun _ => nf) (fun _ => nf) (fun _ => nf) (fun _ => nf) (fun _ => nf) (fun _ => nf) (fun _ => nf) k nf nf nf nf (fun _ => nf) (fun _ => nf) (fun _ => nf) (fun _ => nf) h
theorem aNone_el {v : AV} {f : Prop} {P : AV -> Prop} (h : aNone v f) (k : f -> P .none) : P v :=
  AV.casesOn (motive_1 := fun v => aNone v f -> P v) v nf k (fun _ => nf) (fun _ => nf) (fun _ => nf) (fun _ => nf) (fun _ => nf) (fun _ => nf) (fun _ => nf) (fun _ => nf) (fun _ => nf) (fun _ => nf) nf nf nf nf (fun _ => nf) (fun _ => nf) (fun _ => nf) (fun _ => nf) h
theorem aStr_el {v : AV} {f : Str -> Prop} {P : AV -> Prop} (h : aStr v f) (k : ∀ x, f x -> P (.str x)) : P v :=
  AV.casesOn (motive_1 := fun v => aStr v f -> P v) v nf nf (fun _ => nf) (fun _ => nf) (fun _ => nf) k (fun _ => nf) (fun _ => nf) (fun _ => nf) (fun _ => nf) (fun _ => nf) (fun _ => nf) nf nf nf nf (fun _ => nf) (fun _ => nf) (fun _ => nf) (fun _ => nf) h
theorem aCst_el {v : AV} {f : Value -> Prop} {P : AV -> Prop} (h : aCst v f) (k : ∀ x, f x -> P (.cst x)) : P v :=
  AV.casesOn (motive_1 := fun v => aCst v f -> P v) v nf nf (fun _ => nf) (fun _ => nf) (fun _ => nf) (fun _ => nf) k (fun _ => nf) (fun _ => nf) (fun _ => nf) (fun _ => nf) (fun _ => nf) nf nf nf nf (fun _ => nf) (fun _ => nf) (fun _ => nf) (fun _ => nf) h
theorem aItup_el {v : AV} {f : List Int -> Prop} {P : AV -> Prop} (h : aItup v f) (k : ∀ x, f x -> P (.itup x)) : P v :=
  AV.casesOn (motive_1 := fun v => aItup v f -> P v) v nf nf (fun _ => nf) (fun _ => nf) (fun _ => nf) (fun _ => nf) (fun _ => nf) (fun _ => nf) (fun _ => nf) k (fun _ => nf) (fun _ => nf) nf nf nf nf (fun _ => nf) (fun _ => nf) (fun _ => nf) (fun _ => nf) h
theorem aBb_el {v : AV} {f : Nat -> Prop} {P : AV -> Prop} (h : aBb v f) (k : ∀ x, f x -> P (.bb x)) : P v :=
  AV.casesOn (motive_1 := fun v => aBb v f -> P v) v nf nf (fun _ => nf) (fun _ => nf) (fun _ => nf) (fun _ => nf) (fun _ => nf) (fun _ => nf) (fun _ => nf) (fun _ => nf) (fun _ => nf) (fun _ => nf) nf nf nf nf k (fun _ => nf) (fun _ => nf) (fun _ => nf) h
theorem aTb_el {v : AV} {f : Nat -> Prop} {P : AV -> Prop} (h : aTb v f) (k : ∀ x, f x -> P (.tb x)) : P v :=
  AV.casesOn (motive_1 := fun v => aTb v f -> P v) v nf nf (fun _ => nf) (fun _ => nf) (fun _ => nf) (fun _ => nf) (fun _ => nf) (fun _ => nf) (fun _ => nf) (fun _ => nf) (fun _ => nf) (fun _ => nf) nf nf nf nf (fun _ => nf) k (fun _ => nf) (fun _ => nf) h
theorem aTl_el {v : AV} {f : Nat -> Prop} {P : AV -> Prop} (h : aTl v f) (k : ∀ x, f x -> P (.tl x)) : P v :=
  AV.casesOn (motive_1 := fun v => aTl v f -> P v) v nf nf (fun _ => nf) (fun _ => nf) (fun _ => nf) (fun _ => nf) (fun _ => nf) (fun _ => nf) (fun _ => nf) (fun _ => nf) (fun _ => nf) (fun _ => nf) nf nf nf nf (fun _ => nf) (fun _ => nf) k (fun _ => nf) h
theorem aBld_el {v : AV} {f : Prop} {P : AV -> Prop} (h : aBld v f) (k : f -> P .bld) : P v :=
  AV.casesOn (motive_1 := fun v => aBld v f -> P v) v nf nf (fun _ => nf) (fun _ => nf) (fun _ => nf) (fun _ => nf) (fun _ => nf) (fun _ => nf) (fun _ => nf) (fun _ => nf) (fun _ => nf) (fun _ => nf) k nf nf nf (fun _ => nf) (fun _ => nf) (fun _ => nf) (fun _ => nf) h
theorem gI {v : AV} {f : Int -> Prop} (h : aInt v f) : ∃ x, v = .int x /\ f x := aInt_el (P := fun v => ∃ x, v = .int x /\ f x) h fun x h => ⟨x, rfl, h⟩
theorem aInts_inv {v : AV} {f : List Int -> Prop} (h : aInts v f) : ∃ x, v = .ints x /\ f x := aInts_el (P := fun v => ∃ x, v = .ints x /\ f x) h fun x h => ⟨x, rfl, h⟩
theorem nY {v : AV} {f : Bool -> Prop} (h : aBool v f) : ∃ x, v = .bool x /\ f x := aBool_el (P := fun v => ∃ x, v = .bool x /\ f x) h fun x h => ⟨x, rfl, h⟩
theorem lV {v : AV} {f : List UInt8 -> Prop} (h : oY v f) : ∃ x, v = .bytes x /\ f x := aBytes_el (P := fun v => ∃ x, v = .bytes x /\ f x) h fun x h => ⟨x, rfl, h⟩
theorem aBarr_inv {v : AV} {f : List UInt8 -> Prop} (h : aBarr v f) : ∃ x, v = .barr x /\ f x := aBarr_el (P := fun v => ∃ x, v = .barr x /\ f x) h fun x h => ⟨x, rfl, h⟩
theorem aNone_inv {v : AV} {f : Prop} (h : aNone v f) : v = .none /\ f := aNone_el (P := fun v => v = .none /\ f) h fun h => ⟨rfl, h⟩
theorem aStr_inv {v : AV} {f : Str -> Prop} (h : aStr v f) : ∃ x, v = .str x /\ f x := aStr_el (P := fun v => ∃ x, v = .str x /\ f x) h fun x h => ⟨x, rfl, h⟩
theorem aCst_inv {v : AV} {f : Value -> Prop} (h : aCst v f) : ∃ x, v = .cst x /\ f x := aCst_el (P := fun v => ∃ x, v = .cst x /\ f x) h fun x h => ⟨x, rfl, h⟩
theorem aItup_inv {v : AV} {f : List Int -> Prop} (h : aItup v f) : ∃ x, v = .itup x /\ f x := aItup_el (P := fun v => ∃ x, v = .itup x /\ f x) h fun x h => ⟨x, rfl, h⟩
theorem aBb_inv {v : AV} {f : Nat -> Prop} (h : aBb v f) : ∃ x, v = .bb x /\ f x := aBb_el (P := fun v => ∃ x, v = .bb x /\ f x) h fun x h => ⟨x, rfl, h⟩
theorem aTb_inv {v : AV} {f : Nat -> Prop} (h : aTb v f) : ∃ x, v = .tb x /\ f x := aTb_el (P := fun v => ∃ x, v = .tb x /\ f x) h fun x h => ⟨x, rfl, h⟩
theorem aTl_inv {v : AV} {f : Nat -> Prop} (h : aTl v f) : ∃ x, v = .tl x /\ f x := aTl_el (P := fun v => ∃ x, v = .tl x /\ f x) h fun x h => ⟨x, rfl, h⟩
theorem aBld_inv {v : AV} {f : Prop} (h : aBld v f) : v = .bld /\ f := aBld_el (P := fun v => v = .bld /\ f) h fun h => ⟨rfl, h⟩
noncomputable def aCv (v : AV) (f : Nat -> Prop) : Prop := by
  apply AV.casesOn (motive_1 := fun _ => Prop) v
  case cv => exact fun x => f x
  all_goals intros; exact False
theorem aCv_el {v : AV} {f : Nat -> Prop} {P : AV -> Prop} (h : aCv v f) (k : ∀ x, f x -> P (.cv x)) : P v :=
  AV.casesOn (motive_1 := fun v => aCv v f -> P v) v nf nf (fun _ => nf) (fun _ => nf) (fun _ => nf) (fun _ => nf) (fun _ => nf) (fun _ => nf) (fun _ => nf) (fun _ => nf) (fun _ => nf) (fun _ => nf) nf nf nf nf (fun _ => nf) (fun _ => nf) (fun _ => nf) k h
theorem aCv_inv {v : AV} {f : Nat -> Prop} (h : aCv v f) : ∃ x, v = .cv x /\ f x := aCv_el (P := fun v => ∃ x, v = .cv x /\ f x) h fun x h => ⟨x, rfl, h⟩
noncomputable def aVts (v : AV) (f : Prop) : Prop := by
  apply AV.casesOn (motive_1 := fun _ => Prop) v
  case vts => exact f
  all_goals intros; exact False
theorem aVts_el {v : AV} {f : Prop} {P : AV -> Prop} (h : aVts v f) (k : f -> P .vts) : P v :=
  AV.casesOn (motive_1 := fun v => aVts v f -> P v) v nf nf (fun _ => nf) (fun _ => nf) (fun _ => nf) (fun _ => nf) (fun _ => nf) (fun _ => nf) (fun _ => nf) (fun _ => nf) (fun _ => nf) (fun _ => nf) nf nf nf k (fun _ => nf) (fun _ => nf) (fun _ => nf) (fun _ => nf) h
theorem aVts_inv {v : AV} {f : Prop} (h : aVts v f) : v = .vts /\ f := aVts_el (P := fun v => v = .vts /\ f) h fun h => ⟨rfl, h⟩
noncomputable def aRef (v : Value) (f : Addr -> Prop) : Prop := by
  apply Value.casesOn (motive := fun _ => Prop) v
  case ref => exact fun a => f a
  all_goals intros; exact False
theorem aRef_inv {v : Value} {f : Addr -> Prop} (h : aRef v f) : ∃ a, v = .ref a /\ f a := by
  induction v using Value.casesOn with
  | ref a => exact ⟨a, rfl, h⟩
  | _ => exact nf h
noncomputable def aItems (v : AV) (f : List AV -> Prop) : Prop := by
  apply AV.casesOn (motive_1 := fun _ => Prop) v
  case «ints» => exact fun l => f (l.map .int)
  case lst => exact fun l => f l
  all_goals intros; exact False
theorem aItems_el {v : AV} {f : List AV -> Prop} {P : AV -> Prop} (h : aItems v f) (a : ∀ l, f (List.map AV.int l) -> P (.ints l)) (b : ∀ l, f l -> P (.lst l)) : P v :=
  AV.casesOn (motive_1 := fun v => aItems v f -> P v) v nf nf (fun _ => nf) (fun _ => nf) (fun _ => nf) (fun _ => nf) (fun _ => nf) a b (fun _ => nf) (fun _ => nf) (fun _ => nf) nf nf nf nf (fun _ => nf) (fun _ => nf) (fun _ => nf) (fun _ => nf) h
noncomputable def aUnp (v : AV) (f : List AV -> Prop) : Prop := by
  apply AV.casesOn (motive_1 := fun _ => Prop) v
  case itup => exact fun l => f (l.map .int)
  case tup => exact fun l => f l
  all_goals intros; exact False
theorem aUnp_el {v : AV} {f : List AV -> Prop} {P : AV -> Prop} (h : aUnp v f) (a : ∀ l, f (List.map AV.int l) -> P (.itup l)) (b : ∀ l, f l -> P (.tup l)) : P v :=
  AV.casesOn (motive_1 := fun v => aUnp v f -> P v) v nf nf (fun _ => nf) (fun _ => nf) (fun _ => nf) (fun _ => nf) (fun _ => nf) (fun _ => nf) (fun _ => nf) a b (fun _ => nf) nf nf nf nf (fun _ => nf) (fun _ => nf) (fun _ => nf) (fun _ => nf) h
noncomputable def aInt2 (v : AV) (f : Int -> Prop) (g : List Int -> Prop) (k : List UInt8 -> Prop) : Prop := by
  apply AV.casesOn (motive_1 := fun _ => Prop) v
  case int => exact fun x => f x
  case «ints» => exact fun x => g x
  case bytes => exact fun x => k x
  all_goals intros; exact False
theorem aInt2_inv {v : AV} {f : Int -> Prop} {g : List Int -> Prop} {k : List UInt8 -> Prop} (h : aInt2 v f g k) : (∃ x, v = .int x /\ f x) \/ (∃ x, v = .ints x /\ g x) \/ ∃ x, v = .bytes x /\ k x :=
  (show ∀ P : AV -> Prop, (∀ x, f x -> P (.int x)) -> (∀ x, g x -> P (.ints x)) -> (∀ x, k x -> P (.bytes x)) -> P v from fun P a b c => AV.casesOn (motive_1 := fun v => aInt2 v f g k -> P v) v nf nf (fun _ => nf) a c (fun _ => nf) (fun _ => nf) b (fun _ => nf) (fun _ => nf) (fun _ => nf) (fun _ => nf) nf nf nf nf (fun _ => nf) (fun _ => nf) (fun _ => nf) (fun _ => nf) h)
    (fun v => (∃ x, v = .int x /\ f x) \/ (∃ x, v = .ints x /\ g x) \/ ∃ x, v = .bytes x /\ k x) (fun x h => .inl ⟨x, rfl, h⟩) (fun x h => .inr (.inl ⟨x, rfl, h⟩)) fun x h => .inr (.inr ⟨x, rfl, h⟩)
noncomputable def aIB (v : AV) (f : Int -> Prop) (g : Bool -> Prop) : Prop := by
  apply AV.casesOn (motive_1 := fun _ => Prop) v
  case int => exact fun x => f x
  case bool => exact fun x => g x
  all_goals intros; exact False
theorem aIB_inv {v : AV} {f : Int -> Prop} {g : Bool -> Prop} (h : aIB v f g) : (∃ x, v = .int x /\ f x) \/ ∃ x, v = .bool x /\ g x :=
  (show ∀ P : AV -> Prop, (∀ x, f x -> P (.int x)) -> (∀ x, g x -> P (.bool x)) -> P v from fun P a b => AV.casesOn (motive_1 := fun v => aIB v f g -> P v) v nf nf b a (fun _ => nf) (fun _ => nf) (fun _ => nf) (fun _ => nf) (fun _ => nf) (fun _ => nf) (fun _ => nf) (fun _ => nf) nf nf nf nf (fun _ => nf) (fun _ => nf) (fun _ => nf) (fun _ => nf) h)
    (fun v => (∃ x, v = .int x /\ f x) \/ ∃ x, v = .bool x /\ g x) (fun x h => .inl ⟨x, rfl, h⟩) fun x h => .inr ⟨x, rfl, h⟩
noncomputable def wpBin (op : BOp) (a b : AV) (σ : St) (K : AV -> St -> Prop) : Prop :=
  match op with
  | .add => aInt2 a (fun x => aInt b fun y => K (.int (x + y)) σ) (fun x => aInts b fun y => (x.length + y.length <= 1000000) /\ K (.ints (x ++ y)) σ) (fun _ => False)
  | .sub => aInt a fun x => aInt b fun y => K (.int (x - y)) σ
  | .mul => aInt2 a (fun x => aInt b fun y => (x.natAbs < 2 ^ 40 /\ y.natAbs < 2 ^ 40) /\ K (.int (x * y)) σ)
      (fun x => aInt b fun n => (0 <= n /\ n <= 1000 /\ x.length <= 1000) /\ K (.ints (List.replicate n.toNat x).flatten) σ)
      (fun x => aInt b fun n => (0 <= n /\ n <= 1000 /\ x.length <= 16 /\ x ≠ []) /\ K (.bytes (List.replicate n.toNat x).flatten) σ)
  | .fdiv => aInt a fun x => aInt b fun y => (0 < y /\ y < 2 ^ 70) /\ K (.int (x / y)) σ
  | .mod => aInt a fun x => aInt b fun y => 0 < y /\ K (.int (x % y)) σ
  | .pow => aInt a fun x => aInt b fun y => (0 <= x /\ x <= 256 /\ 0 <= y /\ y <= 100) /\ K (.int (x ^ y.toNat)) σ
  | .band => aInt a fun x => aInt b fun y => K (.int (Builtin.bitAnd x y)) σ
noncomputable def wpAug (op : BOp) (a b : AV) (σ : St) (K : AV -> St -> Prop) : Prop :=
  aInt a fun x => aInt b fun y => match op with
  | .add => K (.int (x + y)) σ
  | .sub => K (.int (x - y)) σ
  | .mul => (x.natAbs < 2 ^ 40 /\ y.natAbs < 2 ^ 40) /\ K (.int (x * y)) σ
  | .band => K (.int (Builtin.bitAnd x y)) σ
  | _ => False
noncomputable def gC (v : AV) (σ : St) (K : Bool -> St -> Prop) : Prop := by
  apply AV.casesOn (motive_1 := fun _ => Prop) v
  case bool => exact fun b => K b σ
  case none => exact K false σ
  case int => exact fun i => K (i != 0) σ
  all_goals intros; exact False
noncomputable def wpUn (op : UOp) (a : AV) (σ : St) (K : AV -> St -> Prop) : Prop :=
  match op with
  | .not => gC a σ fun b σ' => K (.bool (!b)) σ'
  | .inv => aInt a fun x => K (.int (Builtin.bitNot x)) σ
  | .neg => aInt a fun x => K (.int (-x)) σ
noncomputable def aIsN (v : AV) (f : Bool -> Prop) : Prop := by
  apply AV.casesOn (motive_1 := fun _ => Prop) v
  case none => exact f true
  case bool => exact fun _ => f false
  case int => exact fun _ => f false
  case bytes => exact fun _ => f false
  all_goals intros; exact False
noncomputable def wpCmp (op : COp) (a b : AV) (σ : St) (K : AV -> St -> Prop) : Prop :=
  match op with
  | .lt => aInt a fun x => aInt b fun y => K (.bool (decide (x < y))) σ
  | .le => aIB a (fun x => aInt b fun y => K (.bool (decide (x <= y))) σ) fun x => aBool b fun y => K (.bool (!x || y)) σ
  | .gt => aInt a fun x => aInt b fun y => K (.bool (decide (x > y))) σ
  | .ge => aInt a fun x => aInt b fun y => K (.bool (decide (x >= y))) σ
  | .eq => aInt2 a (fun x => aInt b fun y => K (.bool (x == y)) σ) (fun x => aInts b fun y => K (.bool (decide (x = y))) σ) fun x => oY b fun y => K (.bool (decide (x = y))) σ
  | .ne => aInt a fun x => aInt b fun y => K (.bool (x != y)) σ
  | .is => aNone b (aIsN a fun b => K (.bool b) σ)
  | .isnot => aNone b (aIsN a fun b => K (.bool (!b)) σ)
noncomputable def aSeq (v : AV) (ki : List Int -> Prop) (kt : List Int -> Prop) (kl : List AV -> Prop) (ku : List AV -> Prop) (kc : Nat -> Prop) (kp kb : Prop) : Prop := by
  apply AV.casesOn (motive_1 := fun _ => Prop) v
  case «ints» => exact fun l => ki l
  case itup => exact fun l => kt l
  case lst => exact fun l => kl l
  case tup => exact fun l => ku l
  case cv => exact fun n => kc n
  case pile => exact kp
  case box => exact kb
  all_goals intros; exact False
noncomputable def wpIdx (o i : AV) (σ : St) (K : AV -> St -> Prop) : Prop := aInt i fun i => aSeq o
  (fun l => (0 <= i /\ i < l.length /\ l.length <= 1000000) /\ K (.int (l.getD i.toNat 0)) σ)
  (fun l => (0 <= i /\ i < l.length /\ l.length <= 1000000) /\ K (.int (l.getD i.toNat 0)) σ)
  (fun l => (0 <= i /\ i < l.length /\ l.length <= 1000000) /\ K (l.getD i.toNat .unb) σ)
  (fun l => (0 <= i /\ i < l.length /\ l.length <= 1000000) /\ K (l.getD i.toNat .unb) σ)
  (fun n => (match σ.cv with | some l => (n = σ.cvv /\ 0 <= i /\ i < l.length /\ l.length <= 1000000) /\ K (.int (l.getD i.toNat 0)) σ | Option.none => False))
  (if i = 0 then K (.ints σ.pile) σ else if i = 1 then K (.int σ.pmax) σ else False)
  (if i = 0 then K (.ints σ.script) σ else if i = 1 then K (.int σ.bi) σ else False)
noncomputable def wpSlTo (o hi : AV) (σ : St) (K : AV -> St -> Prop) : Prop := aInts o fun l => aInt hi fun n => (0 <= n /\ n <= 1000000 /\ l.length <= 1000000) /\ K (.ints (l.take n.toNat)) σ
noncomputable def wpSlFrom (o lo : AV) (σ : St) (K : AV -> St -> Prop) : Prop := aBb o fun n => aInt lo fun i => (n = σ.ver /\ 0 <= i /\ i <= σ.bytes.length /\ σ.bytes.length <= 1000000) /\ K (.barr (σ.bytes.drop i.toNat)) σ
noncomputable def wpRev (o : AV) (σ : St) (K : AV -> St -> Prop) : Prop :=
  by
  apply AV.casesOn (motive_1 := fun _ => Prop) o
  case «ints» => exact fun l => l.length <= 1000000 /\ K (.ints l.reverse) σ
  case lst => exact fun l => l.length <= 1000000 /\ K (.lst l.reverse) σ
  all_goals intros; exact False
noncomputable def dE : List AV -> Option (List Int)
  | [] => some []
  | .int i :: r => (match dE r with | some l => some (i :: l) | none => none)
  | _ => none
noncomputable def cC (l : List AV) : AV := match dE l with | some is => .ints is | none => .lst l
noncomputable def mkTup (l : List AV) : AV := match dE l with | some is => .itup is | none => .tup l
noncomputable def l1 (l : List AV) (f : AV -> Prop) : Prop := match l with | [] => False | a :: r => (match r with | [] => f a | _ :: _ => False)
noncomputable def l2 (l : List AV) (f : AV -> AV -> Prop) : Prop := match l with | [] => False | a :: r => (match r with | [] => False | b :: r => (match r with | [] => f a b | _ :: _ => False))
theorem l1_inv {l : List AV} {f : AV -> Prop} (h : l1 l f) : ∃ a, l = [a] /\ f a := match l, h with
  | [_], h => ⟨_, rfl, h⟩
theorem l2_inv {l : List AV} {f : AV -> AV -> Prop} (h : l2 l f) : ∃ a b, l = [a, b] /\ f a b := match l, h with
  | [_, _], h => ⟨_, _, rfl, h⟩
noncomputable def wpLen (v : AV) (σ : St) (K : AV -> St -> Prop) : Prop := by
  apply AV.casesOn (motive_1 := fun _ => Prop) v
  case «ints» => exact fun l => l.length <= 1000000 /\ K (.int l.length) σ
  case lst => exact fun l => l.length <= 1000000 /\ K (.int l.length) σ
  case bytes => exact fun l => l.length <= 1000000 /\ K (.int l.length) σ
  case bb => exact fun n => (n = σ.ver /\ σ.bytes.length <= 1000000) /\ K (.int σ.bytes.length) σ
  case cv => exact fun n => (match σ.cv with | some l => (n = σ.cvv /\ l.length <= 1000000) /\ K (.int l.length) σ | none => False)
  all_goals intros; exact False
noncomputable def wpBytes (v : AV) (σ : St) (K : AV -> St -> Prop) : Prop := by
  apply AV.casesOn (motive_1 := fun _ => Prop) v
  case «ints» => exact fun l => (l.length <= 1000000 /\ ∀ x ∈ l, 0 <= x /\ x < 256) /\ K (.bytes (l.map fun x => UInt8.ofNat x.toNat)) σ
  case barr => exact fun l => l.length <= 1000000 /\ K (.bytes l) σ
  all_goals intros; exact False
noncomputable def isinstOf (v : Value) : Option Bool := match v with | .ref a => (match Nat.beq a 50 with | true => some false | false => (match Nat.beq a 51 with | true => some true | false => none)) | _ => none
noncomputable def wpBif (b : Bi) (as : List AV) (σ : St) (K : AV -> St -> Prop) : Prop :=
  match b with
  | .len => l1 as fun a => wpLen a σ K
  | .max => l2 as fun a b => aInt a fun x => aInt b fun y => K (.int (max x y)) σ
  | .min => l2 as fun a b => aInt a fun x => aInt b fun y => K (.int (min x y)) σ
  | .int => l1 as fun a => aIB a (fun x => K (.int x) σ) fun x => K (.int (if x then 1 else 0)) σ
  | .list => l1 as fun a => aBarr a fun l => l.length <= 1000000 /\ K (.ints (l.map fun x => (x.toNat : Int))) σ
  | .bytes => l1 as fun a => wpBytes a σ K
  | .tuple => l1 as fun a => aTl a fun n => (match σ.tl with | some l => (n = σ.tlv /\ l.length <= 1000000) /\ K (.itup l) σ | none => False)
  | .isinst => l2 as fun a b => oY a fun _ => aCst b fun v => (match isinstOf v with | some c => K (.bool c) σ | none => False)
  | .unpack => l2 as fun a b => aStr a fun x => oY b fun l => (x = Str.ofString ">BBBB" /\ l.length = 4) /\ K (.itup (l.map fun x => (x.toNat : Int))) σ
noncomputable def packK (s : Addr) (n : Nat) (p : Int) (c : AV) (σ : St) (K : AV -> St -> Prop) : Prop := match fL s with
  | some (sz, r) => (n = σ.ver /\ 0 <= p /\ p + sz <= σ.bytes.length /\ σ.bytes.length <= 1000000) /\
     (match r with
      | some (lo, hi) => aInt c fun i => (lo <= i /\ i <= hi) /\ K .none (σ.uBytes (aN σ.bytes p.toNat (aF sz i)))
      | none => aBool c fun x => K .none (σ.uBytes (aN σ.bytes p.toNat [if x then 1 else 0])))
  | none => False
noncomputable def wpPack (o a b c : AV) (σ : St) (K : AV -> St -> Prop) : Prop := aCst o fun v => aRef v fun s => aBb a fun n => aInt b fun p => packK s n p c σ K
noncomputable def wpAppend (o a : AV) (σ : St) (K : AV -> St -> Prop) : Prop := aTl o fun n => aInt a fun i =>
  (match σ.tl with | some l => (n = σ.tlv /\ l.length <= 100000) /\ K .none (σ.uTl (some (l ++ [i]))) | none => False)
noncomputable def wpDget (o a : AV) (σ : St) (K : AV -> St -> Prop) : Prop := aVts o (aItup a fun k => k ∉ σ.vts /\ K .none σ)
noncomputable def wpCattr (x : CA) (o : AV) (σ : St) (K : AV -> St -> Prop) : Prop :=
  match o with
  | .cst (.ref c) => (match cI c x with
    | .unb => False
    | v => K v σ)
  | _ => False
noncomputable def wpSlot (k : Sl) (o : AV) (σ : St) (K : AV -> St -> Prop) : Prop :=
  match o with
  | .bld => (match σ.slot k with
    | .unb => False
    | v => K v σ)
  | _ => False
noncomputable def aNI (v : AV) (f : Prop) (g : Int -> Prop) : Prop := by
  apply AV.casesOn (motive_1 := fun _ => Prop) v
  case none => exact f
  case int => exact fun x => g x
  all_goals intros; exact False
noncomputable def wpSets (k : Sl) (o v : AV) (σ : St) (K : St -> Prop) : Prop := aBld o (
  match k with
  | .vne => aNI v (K (σ.uVne (some none))) fun i => K (σ.uVne (some (some i)))
  | .oend => aInt v fun i => K (σ.uOend (some i))
  | .nested => aBool v fun b => K (σ.uNested b)
  | .minalign => aInt v fun i => K (σ.uMinalign i)
  | .head => aInt v fun i => K (σ.uHead i)
  | .fin => aBool v fun b => K (σ.uFin b)
  | .cv => aNone v (K ((σ.uCv none).uCvv (σ.cvv + 1)))
  | .bytes => aTb v fun n => (match σ.tb with | some l => n = σ.tbv /\ K ((((σ.uBytes l).uVer (σ.ver + 1)).uTb none).uTbv (σ.tbv + 1)) | none => False)
  | _ => False)
noncomputable def aII (v : AV) (f : List Int -> Prop) (g : Int -> Prop) : Prop := by
  apply AV.casesOn (motive_1 := fun _ => Prop) v
  case «ints» => exact fun x => f x
  case int => exact fun x => g x
  all_goals intros; exact False
noncomputable def wpSeti (o i v : AV) (σ : St) (K : St -> Prop) : Prop := by
  apply AV.casesOn (motive_1 := fun _ => Prop) o
  case pile => exact aInt i fun i => aII v (fun l => i = 0 /\ K (σ.uPile l)) fun x => i = 1 /\ K (σ.uPmax x)
  case box => exact aInt i fun i => aInt v fun x => i = 1 /\ K (σ.uBi x)
  case cv => exact fun n => aInt i fun i => aInt v fun x => (match σ.cv with | some l => (n = σ.cvv /\ 0 <= i /\ i < l.length /\ l.length <= 1000) /\ K (σ.uCv (some (l.set i.toNat x))) | none => False)
  case vts => exact aItup i fun k => aInt v fun _ => (σ.vts.length <= 1000 /\ k ∉ σ.vts) /\ K (σ.uVts (σ.vts ++ [k]))
  all_goals intros; exact False
noncomputable def wpSetsl (o lo hi v : AV) (σ : St) (K : St -> Prop) : Prop := aBb o fun n => aInt lo fun a => aInt hi fun b => oY v fun w =>
  (n = σ.ver /\ 0 <= a /\ b = a + w.length /\ b <= σ.bytes.length /\ σ.bytes.length <= 1000000) /\ K (σ.uBytes (aN σ.bytes a.toNat w))
noncomputable def wpSetfrom (o lo v : AV) (σ : St) (K : St -> Prop) : Prop := aTb o fun n => aInt lo fun a => aBb v fun m => (match σ.tb with
    | some l => (n = σ.tbv /\ m = σ.ver /\ 0 <= a /\ a + σ.bytes.length = l.length /\ l.length <= 1000000) /\ K (σ.uTb (some (aN l a.toNat σ.bytes)))
    | none => False)
noncomputable def setVars : List AV -> List Nat -> List AV -> Option (List AV)
  | fr, [], vs => match vs with
    | [] => some fr
    | _ :: _ => none
  | fr, i :: is, vs => match vs with
    | [] => none
    | v :: vs => setVars (fr.set i v) is vs
noncomputable abbrev Fns := Addr -> List AV -> St -> (AV -> St -> Prop) -> Prop
structure Wp where
  e : IE -> List AV -> St -> (AV -> St -> Prop) -> Prop
  t : IE -> List AV -> St -> (Bool -> St -> Prop) -> Prop
  s : List IS -> List AV -> St -> (Fl -> List AV -> St -> Prop) -> Prop
noncomputable def wpEs (W : IE -> List AV -> St -> (AV -> St -> Prop) -> Prop) : List IE -> List AV -> St -> (List AV -> St -> Prop) -> Prop
  | [], _, σ, K => K [] σ
  | e :: es, fr, σ, K => W e fr σ fun v AG => wpEs W es fr AG fun vs AH => K (v :: vs) AH
noncomputable def kT (W : List AV -> St -> (AV -> St -> Prop) -> Prop) (i : Nat) (fr : List AV) : List Int -> St -> List AV -> (List AV -> St -> Prop) -> Prop
  | [], σ, acc, K => K acc σ
  | k :: ks, σ, acc, K => W (fr.set i (.int k)) σ fun v AG => kT W i fr ks AG (acc ++ [v]) K
noncomputable def jM (lo hi : Int) : List Int := (List.range (hi - lo).toNat).map fun (k : Nat) => lo + (k : Int)
noncomputable def onInt (v : AV) (f : Int -> Option (List Int)) : Option (List Int) := by
  apply AV.casesOn (motive_1 := fun _ => Option (List Int)) v
  case int => exact fun n => f n
  all_goals intros; exact none
theorem onInt_el {G : Prop} {v : AV} {f : Int -> Option (List Int)} {l : List Int} (h : onInt v f = some l) (k : ∀ n, v = .int n -> f n = some l -> G) : G := by
  induction v using AV.casesOn with
  | int n => exact k n rfl h
  | _ => exact nn h
noncomputable def rangeOf : List AV -> Option (List Int)
  | [v] => onInt v fun n => some (jM 0 n)
  | [v, u, z] => onInt v fun a => onInt u fun b => onInt z fun c => if c = -1 then some ((List.range (a - b).toNat).map fun (k : Nat) => a - (k : Int)) else none
  | _ => none
noncomputable def rangeOk : List AV -> Prop
  | [.int n] => 0 <= n /\ n <= 1000
  | [.int a, .int b, _] => (-1000 <= a /\ a <= 1000) /\ (-1000 <= b /\ b <= 1000)
  | _ => False
noncomputable def wpNextE (Γ : Fns) (W : Wp) (e : IE) : List AV -> St -> (AV -> St -> Prop) -> Prop := by
  apply IE.casesOn (motive_1 := fun _ => List AV -> St -> (AV -> St -> Prop) -> Prop) e
  case lit => exact fun v => fun _ σ K => K v σ
  case loc => exact fun i => fun fr σ K => (match fr[i]? with | some .unb => False | some v => K v σ | none => False)
  case glob => exact fun i => fun _ σ K => (match bN[i]? with | some (_, v) => K v σ | none => False)
  case slot => exact fun k o => fun fr σ K => W.e o fr σ fun v AG => wpSlot k v AG K
  case cattr => exact fun x o => fun fr σ K => W.e o fr σ fun v AG => wpCattr x v AG K
  case bin => exact fun op a b => fun fr σ K => W.e a fr σ fun x AG => W.e b fr AG fun y AH => wpBin op x y AH K
  case un => exact fun op a => fun fr σ K => W.e a fr σ fun x AG => wpUn op x AG K
  case cmp => exact fun op a b => fun fr σ K => W.e a fr σ fun x AG => W.e b fr AG fun y AH => wpCmp op x y AH K
  case and => exact fun a b => fun fr σ K => W.e a fr σ fun x AG => gC x AG fun c AH => (c = true -> W.e b fr AH K) /\ (c = false -> K x AH)
  case and3 => exact fun a b d => fun fr σ K => W.e a fr σ fun x AG => gC x AG fun c AH => (c = true -> W.e b fr AH fun y AJ => gC y AJ fun c' AW => (c' = true -> W.e d fr AW K) /\ (c' = false -> K y AW)) /\ (c = false -> K x AH)
  case ite => exact fun t a b => fun fr σ K => W.t t fr σ fun c AG => (c = true -> W.e a fr AG K) /\ (c = false -> W.e b fr AG K)
  case idx => exact fun o i => fun fr σ K => W.e o fr σ fun x AG => W.e i fr AG fun y AH => wpIdx x y AH K
  case slTo => exact fun o i => fun fr σ K => W.e o fr σ fun x AG => W.e i fr AG fun y AH => wpSlTo x y AH K
  case slFrom => exact fun o i => fun fr σ K => W.e o fr σ fun x AG => W.e i fr AG fun y AH => wpSlFrom x y AH K
  case rev => exact fun o => fun fr σ K => W.e o fr σ fun x AG => wpRev x AG K
  case «list» => exact fun es => fun fr σ K => wpEs W.e es fr σ fun vs AG => vs.length <= 1000 /\ K (cC vs) AG
  case «tuple» => exact fun es => fun fr σ K => wpEs W.e es fr σ fun vs AG => vs.length <= 1000 /\ K (mkTup vs) AG
  case call => exact fun f es => fun fr σ K => wpEs W.e es fr σ fun vs AG => (match bN[f]? with | some (_, .cst (.ref a)) => Γ a vs AG K | _ => False)
  case meth => exact fun m o es => fun fr σ K => W.e o fr σ fun x AG => aBld x (match oB[m]? with | some (_, a) => wpEs W.e es fr AG fun vs AH => Γ a (.bld :: vs) AH K | none => False)
  case «bif» => exact fun b es => fun fr σ K => wpEs W.e es fr σ fun vs AG => wpBif b vs AG K
  case pyty => exact fun o a => fun fr σ K => W.e o fr σ fun x AG => aCst x fun u => aRef u fun c => (match cI c .py_type with
        | .cst (.type "int") => W.e a fr AG fun y AH => wpBif .int [y] AH K
        | _ => False)
  case pack => exact fun o a b c => fun fr σ K => W.e o fr σ fun x AG => aCst x fun v => aRef v fun f => (fL f).isSome = true /\ W.e a fr AG fun y AH => W.e b fr AH fun z AJ => W.e c fr AJ fun u AW => wpPack (.cst (.ref f)) y z u AW K
  case append => exact fun o a => fun fr σ K => W.e o fr σ fun x AG => aTl x fun n => (n = AG.tlv /\ AG.tl.isSome = true) /\ W.e a fr AG fun y AH => wpAppend (.tl n) y AH K
  case dget => exact fun o a => fun fr σ K => W.e o fr σ fun x AG => aVts x (W.e a fr AG fun y AH => wpDget .vts y AH K)
  case comp => exact fun i n elt => fun fr σ K => W.e n fr σ fun x AG => aInt x fun m => (0 <= m /\ m <= 1000) /\ kT (W.e elt) i fr (jM 0 m) AG [] fun vs AH => K (cC vs) AH
  all_goals intros; exact False
noncomputable def plainT : IE -> Bool
  | .loc _ => true | .slot _ _ => true | .call _ _ => true | .meth _ _ _ => true | .bif _ _ => true
  | _ => false
noncomputable def wpNextT (W : Wp) : IE -> List AV -> St -> (Bool -> St -> Prop) -> Prop
  | .un .not a, fr, σ, K => W.t a fr σ fun c AG => K (!c) AG
  | .and a b, fr, σ, K => W.t a fr σ fun c AG => (c = true -> W.t b fr AG K) /\ (c = false -> K false AG)
  | .or a b, fr, σ, K => W.t a fr σ fun c AG => (c = true -> K true AG) /\ (c = false -> W.t b fr AG K)
  | .cmp op a b, fr, σ, K => W.e a fr σ fun x AG => W.e b fr AG fun y AH => wpCmp op x y AH fun r AJ => gC r AJ K
  | .cmp2 oG oH a b c, fr, σ, K => W.e a fr σ fun x AG => W.e b fr AG fun y AH => wpCmp oG x y AH fun r AJ => gC r AJ fun q AW =>
      (q = true -> W.e c fr AW fun z AZ => wpCmp oH y z AZ fun r' AU => gC r' AU K) /\ (q = false -> K false AW)
  | e, fr, σ, K => plainT e = true /\ W.e e fr σ fun x AG => gC x AG K
noncomputable def gD (W : Wp) (t : IE) (b : List IS) : Nat -> List AV -> St -> (Fl -> List AV -> St -> Prop) -> Prop
  | 0, _, _, _ => False
  | n + 1, fr, σ, K => W.t t fr σ fun c AG => (c = true -> W.s b fr AG fun f frG AH => (match f with
      | .ret v => K (.ret v) frG AH
      | _ => gD W t b n frG AH K)) /\ (c = false -> K .next fr AG)
noncomputable def nO (W : Wp) (i : Nat) (b : List IS) : List AV -> List AV -> St -> (Fl -> List AV -> St -> Prop) -> Prop
  | [], fr, σ, K => K .next fr σ
  | v :: vs, fr, σ, K => W.s b (fr.set i v) σ fun f frG AH => (match f with
      | .ret v => K (.ret v) frG AH
      | _ => nO W i b vs frG AH K)
noncomputable def mE (W : Wp) (P : St -> Prop) (i : Nat) (b : List IS) : List AV -> List AV -> St -> (Fl -> List AV -> St -> Prop) -> Prop
  | [], fr, σ, K => K .next fr σ
  | v :: vs, fr, σ, K => W.s b (fr.set i v) σ fun f frG AH => (match f with
      | .ret v => K (.ret v) frG AH
      | _ => P AH /\ mE W P i b vs frG AH K)
noncomputable def wpNextS1 (W : Wp) (e : IS) : List AV -> St -> (Fl -> List AV -> St -> Prop) -> Prop := by
  apply IS.casesOn (motive_1 := fun _ => List AV -> St -> (Fl -> List AV -> St -> Prop) -> Prop) e
  case expr => exact fun e => fun fr σ K => W.e e fr σ fun _ AG => K .next fr AG
  case asg => exact fun i e => fun fr σ K => W.e e fr σ fun v AG => K .next (fr.set i v) AG
  case sets => exact fun k o e => fun fr σ K => W.e e fr σ fun v AG => W.e o fr AG fun x AH => wpSets k x v AH fun AJ => K .next fr AJ
  case newcv => exact fun i n => fun fr σ K => W.e n fr σ fun v AG => aInt v fun m => (match fr[i]? with
      | some b => aBld b ((0 <= m /\ m <= 1000) /\ K .next fr ((AG.uCv (some (List.replicate m.toNat 0))).uCvv (AG.cvv + 1)))
      | none => False)
  case newtl => exact fun i => fun fr σ K => K .next (fr.set i (.tl (σ.tlv + 1))) ((σ.uTl (some [])).uTlv (σ.tlv + 1))
  case newtb => exact fun i n => fun fr σ K => W.e n fr σ fun v AG => aInt v fun m => (0 <= m /\ m <= 1000000) /\ K .next (fr.set i (.tb (AG.tbv + 1))) ((AG.uTb (some (List.replicate m.toNat 0))).uTbv (AG.tbv + 1))
  case seti => exact fun o i e => fun fr σ K => W.e e fr σ fun v AG => W.e o fr AG fun x AH => W.e i fr AH fun y AJ => wpSeti x y v AJ fun AW => K .next fr AW
  case setsl => exact fun o lo hi e => fun fr σ K => W.e e fr σ fun v AG => W.e o fr AG fun x AH => W.e lo fr AH fun y AJ => W.e hi fr AJ fun z AW => wpSetsl x y z v AW fun AZ => K .next fr AZ
  case setfrom => exact fun o lo e => fun fr σ K => W.e e fr σ fun v AG => W.e o fr AG fun x AH => W.e lo fr AH fun y AJ => wpSetfrom x y v AJ fun AW => K .next fr AW
  case unp => exact fun is e => fun fr σ K => W.e e fr σ fun v AG => aUnp v fun vs => (match setVars fr is vs with | some fr' => K .next fr' AG | none => False)
  case aug => exact fun i op e => fun fr σ K => (match fr[i]? with
      | some .unb => False
      | some x => W.e e fr σ fun v AG => wpAug op x v AG fun r AH => K .next (fr.set i r) AH
      | none => False)
  case ret => exact fun e => fun fr σ K => W.e e fr σ fun v AG => K (.ret v) fr AG
  case retn => exact fun fr σ K => K (.ret .none) fr σ
  case ifs => exact fun t a b => fun fr σ K => W.t t fr σ fun c AG => (c = true -> W.s a fr AG K) /\ (c = false -> W.s b fr AG K)
  case whl => exact fun t b => fun fr σ K => ∃ n, gD W t b n fr σ K
  case forr => exact fun i es b => fun fr σ K => wpEs W.e es fr σ fun vs AG => (match rangeOf vs with
      | some ks => rangeOk vs /\ nO W i b (ks.map .int) fr AG K
      | none => False)
  case forl => exact fun i e b => fun fr σ K => W.e e fr σ fun v AG => aItems v fun vs => vs.length <= 1000 /\ nO W i b vs fr AG K
  case forrev => exact fun i e b => fun fr σ K => W.e e fr σ fun v AG => aCv v fun n => (match AG.cv with
      | some l => (n = AG.cvv /\ l.length <= 1000) /\ mE W (fun σ' => σ'.cvv = AG.cvv /\ σ'.cv = some l) i b ((l.map .int).reverse) fr AG K
      | none => False)
  case cont => exact fun fr σ K => K .cont fr σ
  case asgc => exact fun i j n elt => fun fr σ K => W.e n fr σ fun x AG => aInt x fun m => (0 <= m /\ m <= 1000) /\ kT (W.e elt) j fr (jM 0 m) AG [] fun vs AH => K .next (fr.set i (cC vs)) AH
  case bad => exact fun _ _ _ => False
noncomputable def seqK (W : Wp) (xs : List IS) (K : Fl -> List AV -> St -> Prop) : Fl -> List AV -> St -> Prop := fun f fr σ => match f with
  | .next => W.s xs fr σ K
  | f => K f fr σ
noncomputable def retK (K : AV -> St -> Prop) : Fl -> List AV -> St -> Prop := fun fl _ σ => match fl with
  | .ret v => K v σ
  | .next => K .none σ
  | .cont => False
noncomputable def wpNextS (W : Wp) : List IS -> List AV -> St -> (Fl -> List AV -> St -> Prop) -> Prop
  | [], fr, σ, K => K .next fr σ
  | x :: xs, fr, σ, K => wpNextS1 W x fr σ (seqK W xs K)
noncomputable def wpZero : Wp := ⟨fun _ _ _ _ => False, fun _ _ _ _ => False, fun _ _ _ _ => False⟩
noncomputable def wpNext (Γ : Fns) (W : Wp) : Wp := ⟨wpNextE Γ W, wpNextT W, wpNextS W⟩
noncomputable def wp (Γ : Fns) : Nat -> Wp
  | 0 => wpZero
  | n + 1 => wpNext Γ (wp Γ n)
end Fb
set_option genInjectivity false
set_option genCtorIdx false
set_option genSizeOf false
namespace Fb
structure Bud (n : Nat) (A : Around) : Prop where
  hd : A.handled = none
  dp : A.depth + 10 * n <= 900
  un : A.units + 100 * n <= 9000
  gd : A.guards = some []
noncomputable def Grows (h h' : Heap) : Prop := ∀ a o, h.get? a = some o -> h'.get? a = some o
theorem Grows.refl (h : Heap) : Grows h h := fun _ _ e => e
theorem Grows.push (h : Heap) (o : Obj) : Grows h (h.push o) := fun _ _ e => Heap.get?_push_of_some _ e
theorem Grows.trans {a b c : Heap} (x : Grows a b) (y : Grows b c) : Grows a c := fun i o e => y i o (x i o e)
theorem Grows.stp {ρ : Ad} {σ : St} {h h' : Heap} (x : Grows h h') (P : Addr -> Prop := NoP) : Stp P ρ σ h ρ σ h' :=
  ⟨rfl, rfl, rfl, rfl, rfl, rfl, ⟨Nat.le_refl _, fun _ => rfl⟩, ⟨Nat.le_refl _, fun _ _ e => e⟩, ⟨Nat.le_refl _, fun _ _ e => e⟩, ⟨Nat.le_refl _, fun _ _ e => e⟩, fun a o m _ e => ⟨x a o e, m⟩⟩
theorem Dyn.other {P : Addr -> Prop} {g : Heap} {ρ : Ad} {σ : St} {h h' : Heap} (D : Dyn g ρ σ h) (k : ∀ a o, ¬ P a -> h.get? a = some o -> h'.get? a = some o) (hM : ∀ a ∈ ρ.M, ¬ P a) (hS : ∀ a o, P a -> h.get? a = some o -> ¬ Seqy o) :
    Dyn g ρ σ h' /\ Stp P ρ σ h ρ σ h' := by
  have S : Stp P ρ σ h ρ σ h' := ⟨rfl, rfl, rfl, rfl, rfl, rfl, ⟨Nat.le_refl _, fun _ => rfl⟩, ⟨Nat.le_refl _, fun _ _ e => e⟩, ⟨Nat.le_refl _, fun _ _ e => e⟩, ⟨Nat.le_refl _, fun _ _ e => e⟩, fun a o m np e => ⟨k a o np e, m⟩⟩
  have kM : ∀ a ∈ ρ.M, ∀ o, h.get? a = some o -> h'.get? a = some o := fun a ha o e => k a o (hM a ha) e
  obtain ⟨sl, zq0⟩ := D.ob; have e1 := zq0.1; have e2 := zq0.2.1; have e3 := zq0.2.2
  refine ⟨⟨⟨sl, kM _ M_b _ e1, e2, fun k hk => ?_⟩, kM _ M_dx _ D.dx, kM _ M_ba _ D.ba, ?_, ?_, ?_, ?_, ?_, ?_, ?_, D.nodup, D.off, D.rsoff, fun a ha => ?_⟩, S⟩
  . obtain ⟨v, zq0⟩ := e3 k hk; have a := zq0.1; have b := zq0.2; exact ⟨v, a, RV.mono S hS b⟩
  . obtain ⟨o, es, n, xs, zq0⟩ := D.vd; have a := zq0.1; have b := zq0.2.1; have c := zq0.2.2.1; have d := zq0.2.2.2.1; have e := zq0.2.2.2.2.1; have f := zq0.2.2.2.2.2.1; have r := zq0.2.2.2.2.2.2
    exact ⟨o, es, n, xs, kM _ M_vd _ a, b, c, d, e, f, fun x hx => RV.mono S hS (r x hx)⟩
  . exact D.vd1
  . exact D.cv.keep fun b hb o e => kM b (cvM hb) o e
  . exact D.tb.keep fun b hb o e => kM b (tbM hb) o e
  . exact D.tl.keep fun b hb o e => kM b (tlM hb) o e
  . obtain ⟨pa, t, zq0⟩ := D.pl; have a := zq0.1; have b := zq0.2; exact ⟨pa, t, aU a (kM _ M_pl), RV.mono S hS b⟩
  . obtain ⟨pa, t, zq0⟩ := D.bx; have a := zq0.1; have b := zq0.2; exact ⟨pa, t, aU a (kM _ M_bx), RV.mono S hS b⟩
  . obtain ⟨o, zq0⟩ := D.rsin a ha; have e := zq0.1; have q := zq0.2
    exact ⟨o, k _ _ (fun hp => hS _ _ hp e q) e, q⟩
theorem Dyn.grow {g : Heap} {ρ : Ad} {σ : St} {h h' : Heap} (D : Dyn g ρ σ h) (x : Grows h h') : Dyn g ρ σ h' := (D.other (P := NoP) (fun a o _ e => x a o e) (fun _ _ q => q) (fun _ _ q => q.elim)).1
theorem Dyn.inM {g : Heap} {ρ : Ad} {σ : St} {h : Heap} (D : Dyn g ρ σ h) {a : Addr} (ha : a ∈ ρ.M) : ∃ o, h.get? a = some o := by
  simp only [Ad.M, List.mem_cons, List.mem_append, Option.mem_toList] at ha
  rcases ha with rfl | rfl | rfl | rfl | rfl | rfl | ha | ha | ha
  . obtain ⟨sl, zq0⟩ := D.ob; have e := zq0.1; exact ⟨_, e⟩
  . exact ⟨_, D.dx⟩
  . exact ⟨_, D.ba⟩
  . obtain ⟨_, _, _, _, zq0⟩ := D.vd; have e := zq0.1; exact ⟨_, e⟩
  . obtain ⟨_, _, zq0⟩ := D.pl; obtain ⟨_, zq1⟩ := zq0.1; have e := zq1.1; exact ⟨_, e⟩
  . obtain ⟨_, _, zq0⟩ := D.bx; obtain ⟨_, zq1⟩ := zq0.1; have e := zq1.1; exact ⟨_, e⟩
  . have := D.cv; rw [ha] at this; exact this.at
  . have := D.tb; rw [ha] at this; exact this.at
  . have := D.tl; rw [ha] at this; exact this.at
theorem Dyn.fresh {g : Heap} {ρ : Ad} {σ : St} {h : Heap} (D : Dyn g ρ σ h) {a : Addr} (ha : h.objs.size <= a) : Fz ρ a :=
  ⟨fun m => let ⟨_, e⟩ := D.inM m; absurd (Heap.lt_size e) (Nat.not_lt.mpr ha), fun m => let ⟨_, e, _⟩ := D.rsin a m; absurd (Heap.lt_size e) (Nat.not_lt.mpr ha)⟩
end Fb
namespace Fb
section raw
variable {prog : Program} {w : World} {A : Around} {E : Value -> Shared -> Prop} {s : Shared}
theorem raw_add_lists {l b : Addr} {xs ys : Array Value} {n n2 : Nat} {Q : Value -> Shared -> Prop} (ho : s.heap.get? l = some (lob xs n)) (ho2 : s.heap.get? b = some (lob ys n2))
    (h : Q (.ref s.heap.objs.size) { s with heap := s.heap.push (lob (xs ++ ys) 0) })
    (hsz : xs.size + ys.size <= sizeLine) :
    wpAny (model prog w) A (binaryOp .Add (.ref l) (.ref b)) Q E s :=
  concat_meets ⟨_, ho, rfl⟩ ⟨_, ho2, rfl⟩ noFill_list_add seq_list_add PySem.F.slot_list_add PySem.F.entry_list_add (PySem.F.args_list_add_2 _ _) (list_addW l b xs ys n n2 none none #[] #[] hsz) ⟨ho, ho2, h⟩
theorem raw_mul_list {l : Addr} {items : Array Value} {k : Nat} {x : Int} {u : Tok} {Q : Value -> Shared -> Prop}
    (hl : s.heap.get? l = some (lob items k))
    (hlo : -(2 ^ 63 : Int) <= x) (hhi : x < 2 ^ 63) (hsz : items.size * x.toNat <= 2 ^ 24)
    (h : Q (.ref s.heap.objs.size) { s with heap := s.heap.push (lob (List.foldl (fun x1 x2 => x1 ++ x2) #[] (List.replicate (if items.isEmpty = true then 0 else x.toNat) items)) 0) }) :
    wpAny (model prog w) A (binaryOp .Mult (.ref l) (.int x u)) Q E s :=
  wpAny_binaryOp_repeat_ref (T := "list") (U := "int") (by decide) ⟨_, hl, rfl⟩ (fun s' => typeIs_int s' x u) noFill_list_mul F.fills_int_mul F.slot_int_rmul repeat_list F.slot_int_index.lookup
    (call_meets F.slot_int_rmul (typeIs_int s x u) F.entry_int_rmul (F.args_int_rmul_2 _ _) (int___rmul___int_list x u l items k)
      ⟨hl, rfl, ⟨_, hl, rfl⟩, call_meets F.slot_list_mul ⟨_, hl, rfl⟩ F.entry_list_mul (F.args_list_mul_2 _ _)
        (AutoListH.list___mul___list_int_3 l items k x u (by simp [Builtin.List.listFitsIndex]; (exact ⟨by assumption, by assumption⟩)) (by lia) (by simp [Builtin.List.listTooLong, sizeLine]; assumption))
        ⟨hl, h⟩⟩)
end raw
theorem foldl_app (items : Array Value) : ∀ (n : Nat) (acc : Array Value), (List.foldl (fun x1 x2 => x1 ++ x2) acc (List.replicate n items)).toList = acc.toList ++ (List.replicate n items.toList).flatten
  | 0, acc => by simp
  | n + 1, acc => by
    rw [List.replicate_succ, List.foldl_cons, foldl_app items n, List.replicate_succ, List.flatten_cons]
    simp
theorem gF : ∀ {vs us : List Value} {ns ms : List Int}, IntsAre vs ns -> IntsAre us ms -> IntsAre (vs ++ us) (ns ++ ms)
  | _, _, _, _, .nil, b => b
  | _, _, _, _, .cons n t a, b => .cons n t (gF a b)
theorem ints_rep {vs : List Value} {ns : List Int} (a : IntsAre vs ns) : ∀ n : Nat, IntsAre (List.replicate n vs).flatten (List.replicate n ns).flatten
  | 0 => .nil
  | n + 1 => by rw [List.replicate_succ, List.replicate_succ, List.flatten_cons, List.flatten_cons]; exact gF a (ints_rep a n)
theorem bI : ∀ {vs : List Value} {ns : List Int}, IntsAre vs ns -> vs.length = ns.length
  | _, _, .nil => rfl
  | _, _, .cons _ _ a => congrArg (· + 1) (bI a)
theorem log2_lt {x k : Nat} (h : x < 2 ^ k) : x.log2 < k + 1 := by
  by_cases h0 : x = 0
  . subst h0; rw [Nat.log2_zero]; (exact Nat.succ_pos _)
  . have := (Nat.log2_lt h0).mpr h; (exact Nat.le_succ_of_le (by assumption))
theorem bits_le {x : Int} (h : x.natAbs < 2 ^ 63) : Builtin.Int.intBits x <= 64 := by
  have := log2_lt h
  unfold Builtin.Int.intBits
  split <;> lia
noncomputable def PostE (g : Heap) (ρ : Ad) (σ : St) (s : Shared) (Kc : AV -> St -> Prop) (Q : Value -> Shared -> Prop) : Prop :=
  ∀ av v ρ' σ' h' tk, Kc av σ' -> Dyn g ρ' σ' h' -> Stp NoP ρ σ s.heap ρ' σ' h' -> RV ρ' σ' h' av v -> Q v (Fb.sh s h' tk)
noncomputable def PostB (g : Heap) (ρ : Ad) (σ : St) (s : Shared) (Kc : Bool -> St -> Prop) (Q : Bool -> Shared -> Prop) : Prop :=
  ∀ b ρ' σ' h' tk, Kc b σ' -> Dyn g ρ' σ' h' -> Stp NoP ρ σ s.heap ρ' σ' h' -> Q b (Fb.sh s h' tk)
section
variable {prog : Program} {w : World} {A : Around} {E : Value -> Shared -> Prop} {s : Shared} {g : Heap} {ρ : Ad} {σ : St} {n : Nat}
theorem PostE.newList {Kc : AV -> St -> Prop} {Q : Value -> Shared -> Prop} (hP : PostE g ρ σ s Kc Q) (D : Dyn g ρ σ s.heap) {vs : Array Value} {l : List Int} (hi : IntsAre vs.toList l) (hk : Kc (.ints l) σ) (tk : Nat) :
    Q (.ref s.heap.objs.size) (Fb.sh s (s.heap.push (lob vs 0)) tk) :=
  hP _ _ ρ σ _ tk hk (D.grow (Grows.push _ _)) (Grows.push _ _).stp (.ints (D.fresh (Nat.le_refl _)) (Heap.get?_push_size _ rfl) hi)
@[elab_as_elim] theorem int1 {b : AV} {u : Value} {h : Heap} {f : Int -> Prop} {P : Value -> Prop} (hw : aInt b f) (rb : RV ρ σ h b u) (k : ∀ y t, f y -> P (.int y t)) : P u := by
  obtain ⟨y, rfl, hw⟩ := gI hw
  obtain ⟨t', rfl⟩ := rb.int_inv
  exact k y t' hw
@[elab_as_elim] theorem jC {a b : AV} {v u : Value} {h : Heap} {f : Int -> Int -> Prop} {P : Value -> Value -> Prop} (hw : aInt a fun x => aInt b (f x)) (ra : RV ρ σ h a v) (rb : RV ρ σ h b u) (k : ∀ x y t t', f x y -> P (.int x t) (.int y t')) : P v u :=
  int1 (P := fun v => P v u) hw ra fun x t hw => int1 (P := P (.int x t)) hw rb fun y t' hw => k x y t t' hw
theorem mul_ints {vs : Array Value} {l : List Int} {x : Int} (i1 : IntsAre vs.toList l) : IntsAre (List.foldl (fun x1 x2 => x1 ++ x2) #[] (List.replicate (if vs.isEmpty = true then 0 else x.toNat) vs)).toList (List.replicate x.toNat l).flatten := by
  rw [foldl_app]
  by_cases he : vs.isEmpty = true
  . have h0 : vs.toList = [] := by simpa using he
    rw [h0] at i1
    cases i1
    rw [h0]; simp
    exact .nil
  . rw [if_neg he]
    exact ints_rep i1 _
theorem pow_bits {x y : Int} (h : 0 <= x /\ x <= 256 /\ 0 <= y /\ y <= 100) : (Builtin.Int.intBits x : Int) * y <= 64 * 100 := by
  have h1 : Builtin.Int.intBits x <= 64 := bits_le (by omega)
  exact Int.mul_le_mul (by lia) (by lia) (by (have q1 := h.2.2; clear h; lia)) (by exact Int.natCast_nonneg _)
theorem mul_size {a l : Nat} {x : Int} (l1 : a = l) (h : 0 <= x /\ x <= 1000 /\ l <= 1000) : a * x.toNat <= 2 ^ 24 := Nat.le_trans (m := 1000 * 1000) (Nat.mul_le_mul (by lia) (by (have q1 := h.2.1; clear h; (exact Int.toNat_le.mpr (by lia))))) (by decide)
theorem bin_add {a b : AV} {v u : Value} {Kc : AV -> St -> Prop} {Q : Value -> Shared -> Prop} (D : Dyn g ρ σ s.heap) (ra : RV ρ σ s.heap a v) (rb : RV ρ σ s.heap b u) (hw : wpBin .add a b σ Kc) (hP : PostE g ρ σ s Kc Q) :
    wpAny (model prog w) A (binaryOp .Add v u) Q E s := by
  rcases aInt2_inv hw with ⟨x, rfl, hw⟩ | ⟨x, rfl, hw⟩ | ⟨x, rfl, hw⟩
  . obtain ⟨t, rfl⟩ := ra.int_inv
    exact int1 hw rb fun y t' hk => P.add_int (hP _ _ ρ σ s.heap _ hk D (Stp.refl ..) (.int _ _))
  . obtain ⟨y, rfl, hz, hk⟩ := aInts_inv hw
    obtain ⟨_, _, _, rfl, f1, e1, i1⟩ := ra.ints_inv
    obtain ⟨_, _, _, rfl, f2, e2, i2⟩ := rb.ints_inv
    have l1 := bI i1
    have l2 := bI i2
    exact raw_add_lists e1 e2 (hP.newList D (by rw [Array.toList_append]; exact gF i1 i2) hk _) (by
      rw [sizeLine_eq]; simp only [Array.length_toList] at l1 l2; (rw [l2]; lia))
  . exact hw.elim
theorem bin_mul {a b : AV} {v u : Value} {Kc : AV -> St -> Prop} {Q : Value -> Shared -> Prop} (D : Dyn g ρ σ s.heap) (ra : RV ρ σ s.heap a v) (rb : RV ρ σ s.heap b u) (hw : wpBin .mul a b σ Kc) (hP : PostE g ρ σ s Kc Q) :
    wpAny (model prog w) A (binaryOp .Mult v u) Q E s := by
  rcases aInt2_inv hw with ⟨x, rfl, hw⟩ | ⟨x, rfl, hw⟩ | ⟨x, rfl, hw⟩
  . obtain ⟨t, rfl⟩ := ra.int_inv
    exact int1 hw rb fun y t' hk => P.mul_int (hP _ _ ρ σ s.heap _ hk.2 D (Stp.refl ..) (.int _ _)) (IntMulOk.of_left (bits_le (Nat.lt_of_lt_of_le hk.1.1 (by decide))))
  . obtain ⟨_, vs, _, rfl, f1, e1, i1⟩ := ra.ints_inv
    refine int1 hw rb fun y t' hk => ?_
    have l1 : vs.size = x.length := bI i1
    exact raw_mul_list e1 (by (have q1 := hk.1; clear hk; lia)) (by omega) (mul_size l1 hk.1) (hP.newList D (mul_ints i1) hk.2 _)
  . obtain ⟨t, rfl⟩ := ra.bytes_inv
    refine int1 hw rb fun y t' hk => ?_
    exact bytes_mul_any (by simpa using hk.1.2.2.2) (by lia) (by (have q1 := hk.1; clear hk; lia)) (by (have q1 := hk.1; clear hk; lia)) fun t' k => hP _ _ ρ σ s.heap _ hk.2 D (Stp.refl ..) (.bytes _ _)
theorem bin_sound {op : BOp} {o : Operator} (ho : o = (match op with | .add => .Add | .sub => .Sub | .mul => .Mult | .fdiv => .FloorDiv | .mod => .Mod | .pow => .Pow | .band => .BitAnd))
    {a b : AV} {v u : Value} {Kc : AV -> St -> Prop} {Q : Value -> Shared -> Prop} (D : Dyn g ρ σ s.heap) (ra : RV ρ σ s.heap a v) (rb : RV ρ σ s.heap b u) (hw : wpBin op a b σ Kc) (hP : PostE g ρ σ s Kc Q) :
    wpAny (model prog w) A (binaryOp o v u) Q E s := by
  subst ho
  induction op using BOp.casesOn with
  | add => exact bin_add D ra rb hw hP
  | mul => exact bin_mul D ra rb hw hP
  | sub => exact jC hw ra rb fun x y t t' hk => P.sub_int (hP _ _ ρ σ s.heap _ hk D (Stp.refl ..) (.int _ _))
  | band => exact jC hw ra rb fun x y t t' hk => and_int (hP _ _ ρ σ s.heap _ hk D (Stp.refl ..) (.int _ _))
  | fdiv =>
    refine jC hw ra rb fun x y t t' hk => floordiv_int (by (have q1 := hk.1; clear hk; lia)) ?_ (.inl (PyProof.noPylong_of_log2 ?_))
    . rw [Int.fdiv_eq_ediv_of_nonneg _ (by (have q1 := hk.1; clear hk; lia))]
      exact hP _ _ ρ σ s.heap _ hk.2 D (Stp.refl ..) (.int _ _)
    . exact Nat.lt_of_le_of_lt (Nat.le_of_lt_succ (log2_lt (k := 70) (by omega))) (by decide)
  | mod =>
    refine jC hw ra rb fun x y t t' hk => mod_int' (by (have q1 := hk.1; clear hk; (exact Int.ne_of_gt (by assumption)))) ?_
    rw [Int.fmod_eq_emod_of_nonneg _ (by (have q1 := hk.1; clear hk; (exact Int.le_of_lt (by assumption))))]
    exact hP _ _ ρ σ s.heap _ hk.2 D (Stp.refl ..) (.int _ _)
  | pow =>
    exact jC hw ra rb fun x y t t' hk => pow_int (by (have q1 := hk.1; clear hk; lia)) (by have := pow_bits hk.1; (exact Int.le_trans (by assumption) (by decide))) (hP _ _ ρ σ s.heap _ hk.2 D (Stp.refl ..) (.int _ _))
end
end Fb
namespace Fb
theorem eE {h : Heap} {a : Addr} {vs : Array Value} {n : Nat} (e : h.get? a = some (lob vs n)) : h.IsList a vs := ⟨_, e, rfl, n, rfl⟩
theorem istup' {h : Heap} {a : Addr} {vs : Array Value} {n : Nat} (e : h.get? a = some (tob vs n)) : IsTup h a vs := ⟨_, e, rfl, n, rfl⟩
theorem kY : ∀ {vs : List Value} {ns : List Int}, IntsAre vs ns -> ∀ i, i < ns.length -> ∃ t, vs[i]? = some (.int (ns.getD i 0) t)
  | _, _, .nil, i, h => absurd h (Nat.not_lt_zero _)
  | _, _, .cons n t a, 0, _ => ⟨t, rfl⟩
  | _, _, .cons n t a, i + 1, h => by
    obtain ⟨t', e⟩ := kY a i (by simpa using h)
    exact ⟨t', by simpa using e⟩
theorem rvs_get {ρ : Ad} {σ : St} {h : Heap} : ∀ {l : List AV} {vs : List Value}, RVs ρ σ h l vs -> ∀ i, i < l.length -> ∃ v, vs[i]? = some v /\ RV ρ σ h (l.getD i .unb) v
  | _, _, .nil, i, h => absurd h (Nat.not_lt_zero _)
  | _, _, .cons a b, 0, _ => ⟨_, rfl, a⟩
  | _, _, .cons a b, i + 1, h => by
    obtain ⟨v, zq0⟩ := rvs_get b i (by simpa using h); have e := zq0.1; have r := zq0.2
    exact ⟨v, by simpa using e, by simpa using r⟩
theorem dB {ρ : Ad} {σ : St} {h : Heap} : ∀ {l : List AV} {vs : List Value}, RVs ρ σ h l vs -> vs.length = l.length
  | _, _, .nil => rfl
  | _, _, .cons _ b => congrArg (· + 1) (dB b)
noncomputable def gG : Expr -> Bool
  | .Slice _ _ _ _ => false
  | _ => true
theorem eY {e : Expr} {o i : Value} (h : gG e = true) : subscripted e false o i = operate [o, i] (getItem o i) := by
  cases e <;> first | rfl | cases h
section
variable {prog : Program} {w : World} {A : Around} {E : Value -> Shared -> Prop} {s : Shared} {g : Heap} {ρ : Ad} {σ : St} {n : Nat}
theorem cR {a : AV} {v : Value} {Kc : Bool -> St -> Prop} {Q : Bool -> Shared -> Prop} (D : Dyn g ρ σ s.heap) (ra : RV ρ σ s.heap a v) (hw : gC a σ Kc) (hP : PostB g ρ σ s Kc Q) :
    wpAny (model prog w) A (truthy v) Q E s := by
  induction a using AV.casesOn with
  | bool => obtain rfl := ra.bool_inv; exact wpAny_truthy_bool (hP _ ρ σ s.heap _ hw D (Stp.refl ..))
  | none => obtain rfl := ra.none_inv; exact truthy_none (hP _ ρ σ s.heap _ hw D (Stp.refl ..))
  | int => obtain ⟨_, rfl⟩ := ra.int_inv; exact P.truthy_int (hP _ ρ σ s.heap _ hw D (Stp.refl ..))
  | _ => exact False.elim hw
theorem un_sound {op : UOp} {o : UnaryOp} (ho : o = (match op with | .not => .Not | .inv => .Invert | .neg => .USub)) {a : AV} {v : Value} {Kc : AV -> St -> Prop} {Q : Value -> Shared -> Prop} (D : Dyn g ρ σ s.heap) (ra : RV ρ σ s.heap a v) (hw : wpUn op a σ Kc) (hP : PostE g ρ σ s Kc Q) :
    wpAny (model prog w) A (unaryOp o v) Q E s := by
  subst ho
  induction op using UOp.casesOn with
  | not => exact not_of (cR (Kc := fun b σ' => Kc (.bool (!b)) σ') D ra hw fun b ρ' σ' h' tk hk D' S' => hP _ _ ρ' σ' h' tk hk D' S' (.bool _))
  | inv => exact int1 hw ra fun x t hk => invert_int (hP _ _ ρ σ s.heap _ hk D (Stp.refl ..) (.int _ _))
  | neg => exact int1 hw ra fun x t hk => P.neg_int (hP _ _ ρ σ s.heap _ hk D (Stp.refl ..) (.int _ _))
theorem le_b (x y : Bool) : decide (b2i x <= b2i y) = (!x || y) := by induction x using Bool.casesOn <;> induction y using Bool.casesOn <;> decide
theorem eq_b (x y : List UInt8) : (x.toArray.toList == y.toArray.toList) = decide (x = y) := by
  by_cases h : x = y
  . subst h; simp
  . simp [h]
theorem cmp_eq {a b : AV} {v u : Value} {Kc : AV -> St -> Prop} {Q : Value -> Shared -> Prop} (hB : Bud n A) (fin : ∀ c, Kc (.bool c) σ -> Q (.bool c) s) (ra : RV ρ σ s.heap a v) (rb : RV ρ σ s.heap b u) (hw : wpCmp .eq a b σ Kc) :
    wpAny (model prog w) A (compareOp .Eq v u) Q E s := by
  rcases aInt2_inv hw with ⟨x, rfl, hw⟩ | ⟨x, rfl, hw⟩ | ⟨x, rfl, hw⟩
  . obtain ⟨t, rfl⟩ := ra.int_inv
    exact int1 hw rb fun y t' hk => P.eq_int (fin _ hk)
  . obtain ⟨y, rfl, hk⟩ := aInts_inv hw
    obtain ⟨_, _, _, rfl, f1, e1, i1⟩ := ra.ints_inv
    obtain ⟨_, _, _, rfl, f2, e2, i2⟩ := rb.ints_inv
    refine eq_intsK (eE e1) i1 (eE e2) i2 ?_ (fin _ hk)
    have := hB.un; have hc := cLine_is; (rw [hc]; lia)
  . obtain ⟨y, rfl, hk⟩ := lV hw
    obtain ⟨t, rfl⟩ := ra.bytes_inv
    obtain ⟨t', rfl⟩ := rb.bytes_inv
    refine eq_bytes (fin _ ?_)
    rw [eq_b]; exact hk
theorem isN {a : AV} {v : Value} {f : Bool -> Prop} (hw : aIsN a f) (ra : RV ρ σ s.heap a v) : (v = .none /\ f true) \/ (v ≠ .none /\ f false) := by
  induction a using AV.casesOn with
  | none => exact .inl ⟨ra.none_inv, hw⟩
  | bool b => exact .inr ⟨fun q => (nomatch ra.bool_inv.symm.trans q), hw⟩
  | int i => exact .inr ⟨fun q => ra.int_inv.elim fun t e => (nomatch e.symm.trans q), hw⟩
  | bytes l => exact .inr ⟨fun q => ra.bytes_inv.elim fun t e => (nomatch e.symm.trans q), hw⟩
  | _ => exact nf hw
theorem nZ {op : COp} {o : CmpOp} (ho : o = (match op with | .lt => .Lt | .le => .LtE | .gt => .Gt | .ge => .GtE | .eq => .Eq | .ne => .NotEq | .is => .Is | .isnot => .IsNot))
    {a b : AV} {v u : Value} {Kc : AV -> St -> Prop} {Q : Value -> Shared -> Prop} (hB : Bud n A) (D : Dyn g ρ σ s.heap) (ra : RV ρ σ s.heap a v) (rb : RV ρ σ s.heap b u) (hw : wpCmp op a b σ Kc) (hP : PostE g ρ σ s Kc Q) :
    wpAny (model prog w) A (compareOp o v u) Q E s := by
  subst ho
  have fin : ∀ c, Kc (.bool c) σ -> Q (.bool c) s := fun c hc => hP _ _ ρ σ s.heap s.toks hc D (Stp.refl ..) (.bool _)
  induction op using COp.casesOn with
  | lt => exact jC hw ra rb fun x y t t' hk => P.lt_int (fin _ hk)
  | gt => exact jC hw ra rb fun x y t t' hk => P.gt_int (fin _ hk)
  | ge => exact jC hw ra rb fun x y t t' hk => P.ge_int (fin _ hk)
  | ne => exact jC hw ra rb fun x y t t' hk => P.ne_int (fin _ hk)
  | eq => exact cmp_eq hB fin ra rb hw
  | le =>
    rcases aIB_inv hw with ⟨x, rfl, hw⟩ | ⟨x, rfl, hw⟩
    . obtain ⟨t, rfl⟩ := ra.int_inv
      exact int1 hw rb fun y t' hk => P.le_int (fin _ hk)
    . obtain ⟨y, rfl, hk⟩ := nY hw
      obtain rfl := ra.bool_inv
      obtain rfl := rb.bool_inv
      exact le_bool (fin _ (by rw [le_b]; exact hk))
  | is =>
    obtain ⟨rfl, hw⟩ := aNone_inv hw
    obtain rfl := rb.none_inv
    rcases isN (f := fun b => Kc (.bool b) σ) hw ra with ⟨rfl, hk⟩ | ⟨hv, hk⟩
    . exact is_none_none (fin _ hk)
    . exact is_none_ne hv (fin _ hk)
  | isnot =>
    obtain ⟨rfl, hw⟩ := aNone_inv hw
    obtain rfl := rb.none_inv
    rcases isN (f := fun b => Kc (.bool (!b)) σ) hw ra with ⟨rfl, hk⟩ | ⟨hv, hk⟩
    . exact isnot_none_none (fin _ hk)
    . exact isnot_none_ne hv (fin _ hk)
theorem seqIx {i : Int} {k : Nat} (h0 : 0 <= i) (h : i.toNat < k) : seqIndex? i k = some i.toNat := by
  unfold seqIndex?
  have e : (if i < 0 then i + (k : Int) else i) = i := if_neg (by lia)
  simp only [e]
  have : (decide (0 <= i) && decide (i < (k : Int))) = true := by rw [Bool.and_eq_true]; exact ⟨decide_eq_true h0, decide_eq_true (by lia)⟩
  rw [this]; rfl
theorem getl {value slice : Expr} (hns : gG slice = true) {a : Addr} {vs : Array Value} {i : Int} {t : Tok} {x : Value} {Q : Value -> Shared -> Prop} (e1 : s.heap.IsList a vs) (h0 : 0 <= i) (hl : vs.size <= 1000000) (e : vs[i.toNat]? = some x) (h : Q x s) :
    wpAny (model prog w) A (subscriptTail value slice (.ref a) (.int i t)) Q E s := by
  have szl : sizeLine = 16777216 := sizeLine_eq
  have hi : i.toNat < vs.size := (Array.getElem?_eq_some_iff.mp e).1
  exact tail_any e1.typeIs slot_list_getitem.lookup (wpAny_getItem_list e1 h0 (by (clear h0; lia)) e h) (eY hns)
theorem gett {value slice : Expr} (hns : gG slice = true) {a : Addr} {vs : Array Value} {i : Int} {t : Tok} {x : Value} {n : Nat} {Q : Value -> Shared -> Prop} (e1 : s.heap.get? a = some (tob vs n)) (h0 : 0 <= i) (hi : i.toNat < vs.size) (hl : vs.size <= 1000000) (e : vs[i.toNat]? = some x) (h : Q x s) :
    wpAny (model prog w) A (subscriptTail value slice (.ref a) (.int i t)) Q E s := by
  have szl : sizeLine = 16777216 := sizeLine_eq
  exact tail_any (istup' e1).typeIs slot_tuple_getitem.lookup (getItem_tuple (istup' e1) (by lia) (by (clear h0; lia)) (seqIx h0 hi) e h) (eY hns)
theorem getpair {value slice : Expr} (hns : gG slice = true) {a : Addr} {x y : AV} {u v : Value} {i : Int} {t : Tok} {Kc : AV -> St -> Prop} {Q : Value -> Shared -> Prop} (D : Dyn g ρ σ s.heap) (e1 : s.heap.IsList a #[u, v]) (ru : RV ρ σ s.heap x u) (rv : RV ρ σ s.heap y v)
    (hw : if i = 0 then Kc x σ else if i = 1 then Kc y σ else False) (hP : PostE g ρ σ s Kc Q) : wpAny (model prog w) A (subscriptTail value slice (.ref a) (.int i t)) Q E s := by
  by_cases h0 : i = 0
  . rw [if_pos h0] at hw
    subst h0
    exact getl hns e1 (by exact Int.natCast_nonneg _) (show 2 <= 1000000 by decide) rfl (hP _ _ ρ σ s.heap s.toks hw D (Stp.refl ..) ru)
  . rw [if_neg h0] at hw
    by_cases h1 : i = 1
    . rw [if_pos h1] at hw
      subst h1
      exact getl hns e1 (by exact Int.natCast_nonneg _) (show 2 <= 1000000 by decide) rfl (hP _ _ ρ σ s.heap s.toks hw D (Stp.refl ..) rv)
    . rw [if_neg h1] at hw; exact hw.elim
theorem idx_sound {value slice : Expr} (hns : gG slice = true) {a b : AV} {v u : Value} {Kc : AV -> St -> Prop} {Q : Value -> Shared -> Prop} (D : Dyn g ρ σ s.heap) (ra : RV ρ σ s.heap a v) (rb : RV ρ σ s.heap b u) (hw : wpIdx a b σ Kc) (hP : PostE g ρ σ s Kc Q) :
    wpAny (model prog w) A (subscriptTail value slice v u) Q E s := by
  refine int1 hw rb fun i t hw => ?_
  induction a using AV.casesOn with
  | «ints» l =>
    obtain ⟨_, vs, _, rfl, f1, e1, i1⟩ := ra.ints_inv
    refine bcn fun nG => ?_; obtain ⟨⟨h0, h1, h2⟩, hk⟩ := hw
    obtain ⟨t, e⟩ := kY i1 i.toNat (by lia)
    have l1 : vs.size = l.length := bI i1
    refine nG ?_; exact getl hns (eE e1) h0 (by (rw [l1]; lia)) (by simpa using e) (hP _ _ ρ σ s.heap s.toks hk D (Stp.refl ..) (.int _ _))
  | itup l =>
    obtain ⟨_, vs, _, rfl, f1, e1, i1⟩ := ra.itup_inv
    refine bcn fun nG => ?_; obtain ⟨⟨h0, h1, h2⟩, hk⟩ := hw
    obtain ⟨t, e⟩ := kY i1 i.toNat (by lia)
    have l1 : vs.size = l.length := bI i1
    refine nG ?_; exact gett hns e1 h0 (by (rw [l1]; lia)) (by lia) (by simpa using e) (hP _ _ ρ σ s.heap s.toks hk D (Stp.refl ..) (.int _ _))
  | lst l =>
    obtain ⟨_, vs, _, rfl, f1, e1, i1⟩ := ra.lst_inv
    refine bcn fun nG => ?_; obtain ⟨⟨h0, h1, h2⟩, hk⟩ := hw
    obtain ⟨v, e, r⟩ := rvs_get i1 i.toNat (by lia)
    have l1 : vs.size = l.length := dB i1
    refine nG ?_; exact getl hns (eE e1) h0 (by (rw [l1]; lia)) (by simpa using e) (hP _ _ ρ σ s.heap s.toks hk D (Stp.refl ..) r)
  | tup l =>
    obtain ⟨_, vs, _, rfl, f1, e1, i1⟩ := ra.tup_inv
    refine bcn fun nG => ?_; obtain ⟨⟨h0, h1, h2⟩, hk⟩ := hw
    obtain ⟨v, e, r⟩ := rvs_get i1 i.toNat (by lia)
    have l1 : vs.size = l.length := dB i1
    refine nG ?_; exact gett hns e1 h0 (by (rw [l1]; lia)) (by lia) (by simpa using e) (hP _ _ ρ σ s.heap s.toks hk D (Stp.refl ..) r)
  | cv k =>
    have hw : (match σ.cv with | some l => (k = σ.cvv /\ 0 <= i /\ i < l.length /\ l.length <= 1000000) /\ Kc (.int (l.getD i.toNat 0)) σ | Option.none => False) := hw
    have hcv := D.cv
    induction hl : σ.cv using Option.casesOn with
    | none => rw [hl] at hw; exact hw.elim
    | some l =>
      rw [hl] at hcv hw
      induction hc : ρ.cv using Option.casesOn with
      | none => rw [hc] at hcv; exact hcv.elim
      | some c =>
        rw [hc] at hcv
        refine bcn fun nG => ?_; obtain ⟨vs, e1, i1⟩ := hcv
        obtain ⟨⟨hn, h0, h1, h2⟩, hk⟩ := hw
        refine nG ?_; obtain rfl := ra.cv_inv hn c hc
        refine bcn fun nG => ?_; obtain ⟨t, e⟩ := kY i1 i.toNat (by lia)
        have l1 : vs.size = l.length := bI i1
        refine nG ?_; exact getl hns e1 h0 (by lia) (by simpa using e) (hP _ _ ρ σ s.heap s.toks hk D (Stp.refl ..) (.int _ _))
  | pile =>
    refine bcn fun nG => ?_; obtain ⟨pa, t, e1, r1⟩ := D.pl
    refine nG ?_; obtain rfl := ra.pile_inv
    exact getpair hns D e1 r1 (.int _ _) hw hP
  | box =>
    refine bcn fun nG => ?_; obtain ⟨pa, t, e1, r1⟩ := D.bx
    refine nG ?_; obtain rfl := ra.box_inv
    exact getpair hns D e1 r1 (.int _ _) hw hP
  | _ => exact False.elim hw
end
end Fb
set_option genInjectivity false
set_option genCtorIdx false
set_option genSizeOf false
namespace Fb
structure Stat (K : Frag) (g : Heap) : Prop where
  X : K.In g
  top : ∃ mg mb, g.Ns mainGlobals mg /\ g.Ns builtinsNs mb /\ ∀ x : Str, x ≠ "__name__" -> mb x = bootBuiltins x
  lim : g.NoLimit
noncomputable def GlobIs (K : Frag) (x : Str) : AV -> Prop
  | .cst v => nsIn K mainGlobals x = some (some v) \/ (nsIn K mainGlobals x = some none /\ bootBuiltins x = some v /\ x ≠ "__name__")
  | .int i => ∃ t, nsIn K mainGlobals x = some (some (.int i t))
  | _ => False
noncomputable def callable (i : Nat) : Bool := i == 28 || i == 29 || (31 <= i && i <= 43 : Bool)
structure KFacts (K : Frag) : Prop where
  slots : ∀ k : Sl, plainGet K 729 k.name = true /\ isClsIn K 729 = true /\ findIn K (.ref 729) k.name = some (some (.ref k.addr)) /\ specialIn K (.ref k.addr) "__get__" = some (some (.builtin "member_descriptor.__get__")) /\
    takesIn K (.ref k.addr) = some true /\ slotIn K k.addr 729 = some k.idx /\ takerIn K 729 k.name = some (some (.ref k.addr)) /\ typeIn K (.ref k.addr) = some (.type "member_descriptor")
  setat : findIn K (.ref 729) "__setattr__" = some (some (.builtin "object.__setattr__")) /\ plainOver K 729 = true
  glob : ∀ (i : Nat) x v, bN[i]? = some (x, v) -> GlobIs K x v
  keep : ∀ (i : Nat) x a, callable i = true -> bN[i]? = some (x, .cst (.ref a)) -> keepIn K (.ref a) = true
  meth : ∀ (i : Nat) x a, oB[i]? = some (x, a) -> plainGet K 729 x = true /\ findIn K (.ref 729) x = some (some (.ref a)) /\ isFn K (.ref a) = true /\ keepIn K (.ref a) = true
  cattr : ∀ c x, x ≠ .py_type -> cI c x ≠ .unb -> readsIn K c (.type "type") = true /\ ∃ v, findCls K (.ref c) (.type "type") x.name = some (.val v) /\ handedIn v = true /\ (match cI c x with
    | .int i => ∃ t, v = .int i t
    | .bool b => v = .bool b
    | .cst u => v = u
    | _ => False)
  pyty : ∀ c, cI c .py_type ≠ .unb -> readsIn K c (.type "type") = true /\ findIn K (.type "type") (CA.name .py_type) = some none /\ findIn K (.ref c) (CA.name .py_type) = some (some (.type "int"))
  cmeth : ∀ c, cI c .py_type ≠ .unb -> specialIn K (.ref c) "__getattribute__" = some (some (.builtin "type.__getattribute__"))
noncomputable def pyRow : AV -> Bool
  | .unb => true
  | .cst (.type t) => t == "int"
  | _ => false
theorem pyRow_is {a : AV} (h : pyRow a = true) (n : a ≠ .unb) : a = .cst (.type "int") := by
  induction a using AV.casesOn with
  | unb => exact absurd rfl n
  | cst v => cases v <;> first | (exact congrArg (fun t => AV.cst (.type t)) (eq_of_beq h)) | exact Bool.noConfusion h
  | _ => exact Bool.noConfusion h
theorem pyty_is {c : Addr} (h : cI c .py_type ≠ .unb) : cI c .py_type = .cst (.type "int") := by
  obtain ⟨r, zq0⟩ := caVal_row h; have hr := zq0.1; have e := zq0.2.2
  refine pyRow_is ?_ h
  rw [e]
  exact List.all_eq_true.mp (show (caTab.all fun r => pyRow (r.get .py_type)) = true from by decide +kernel) r hr
theorem Ns.uniq {h : Heap} {a : Addr} {m m' : Str -> Option Value} (x : h.Ns a m) (y : h.Ns a m') : m = m' := by
  refine bcn fun nG => ?_; obtain ⟨o, es, ep, ho, hd, _, hf⟩ := x
  obtain ⟨o', es', ep', ho', hd', _, hf'⟩ := y
  refine nG ?_; rw [ho] at ho'; cases ho'
  rw [hd] at hd'; cases hd'
  funext z
  rw [<- hf z, <- hf' z]
section
variable {prog : Program} {w : World} {A : Around} {E : Value -> Shared -> Prop} {s : Shared} {g : Heap} {ρ : Ad} {σ : St} {n : Nat} {env : Env} {vars : List Str} {fr : List AV} {K : Frag}
theorem load_loc {x : Str} {i : Nat} {av : AV} {Q : Value -> Shared -> Prop} (H : Act g ρ σ env vars fr s.heap) (hi : vars[i]? = some x) (hv : Vis env x) (hf : fr[i]? = some av) (hu : av ≠ .unb)
    (hc : (x == ("__classdict__" : Str)) = false) (h : ∀ v, RV ρ σ s.heap av v -> Q v s) : wpAny (model prog w) A (loadName env x) Q E s := by
  refine bcn fun nG => ?_; obtain ⟨v, hh, hr⟩ := H.loc i x av hi hv hf hu
  refine nG ?_; rcases hh with ⟨k, m, hn, hm⟩ | ⟨k | k, c, hc', hcell⟩
  . exact wpAny_loadName_local H.ok.fn k hn hm (h v hr)
  . exact wpAny_loadName_cell H.ok.fn k hc' hcell (h v hr)
  . exact wpAny_loadName_free H.ok.fn k hc' hcell (h v hr) hc
theorem jB {x : Str} {i : Nat} {av : AV} {pos : Pos} {Q : Value -> Shared -> Prop} (H : Act g ρ σ env vars fr s.heap) (hi : vars[i]? = some x) (hv : Vis env x) (hf : fr[i]? = some av) (hu : av ≠ .unb)
    (hd : (x == ("__debug__" : Str)) = false) (hc : (x == ("__classdict__" : Str)) = false) (h : ∀ v, RV ρ σ s.heap av v -> Q v s) : wpAny (model prog w) A (eval (.Name x pos) env) Q E s :=
  wpAny_Name (load_loc H hi hv hf hu hc h) hd
theorem eL (T : Stat K g) (KF : KFacts K) {x : Str} {i : Nat} {av : AV} {pos : Pos} {Q : Value -> Shared -> Prop} (H : Act g ρ σ env vars fr s.heap) (hi : bN[i]? = some (x, av)) (hx : env.kindOf x = some .globalImplicit)
    (hd : (x == ("__debug__" : Str)) = false) (h : ∀ v, RV ρ σ s.heap av v -> Q v s) : wpAny (model prog w) A (eval (.Name x pos) env) Q E s := by
  have G := KF.glob i x av hi
  refine bcn fun nG => ?_; obtain ⟨mg, mb, zq0⟩ := T.top; have hg := zq0.1; have hb := zq0.2.1; have hboot := zq0.2.2
  have hg' : s.heap.Ns env.globals mg := by rw [H.ok.gl]; exact hg.keeps H.st
  have hb' : s.heap.Ns env.builtins mb := by rw [H.ok.bi]; exact hb.keeps H.st
  refine nG ?_; refine Name_function_global H.ok.fn hx ?_ hd
  induction av using AV.casesOn with
  | cst v =>
    rcases G with e | ⟨e, e2, e3⟩
    . exact loadGlobal_global hg' (mg_of T.X hg e) (h _ (.cst v))
    . exact loadGlobal_builtin hg' (mg_none_of T.X hg e) hb' ((hboot x e3).trans e2) (h _ (.cst v))
  | int j => obtain ⟨t, e⟩ := G; exact loadGlobal_global hg' (mg_of T.X hg e) (h _ (.int _ _))
  | _ => exact G.elim
theorem eM {x : Str} {i : Nat} {av : AV} {v : Value} {Q : Unit -> Shared -> Prop} (H : Act g ρ σ env vars fr s.heap) (hi : vars[i]? = some x) (nd : vars.Nodup) (hv : env.kindOf x = some .local \/ env.kindOf x = some .cell) (hr : RV ρ σ s.heap av v)
    (h : ∀ h' tk, Act g ρ σ env vars (fr.set i av) h' -> Stp (Own env) ρ σ s.heap ρ σ h' -> Q () (Fb.sh s h' tk)) : wpAny (model prog w) A (storeName env x v) Q E s := by
  obtain ⟨m, hn⟩ := H.ns
  obtain ⟨oL, esL, epL, zq0⟩ := id hn; have hoL := zq0.1; have hdL := zq0.2.1
  have hS : ∀ a o, Own env a -> s.heap.get? a = some o -> ¬ Seqy o := by
    intro a o ha ho hs
    rcases ha with rfl | ⟨y, hy⟩
    . rw [hoL] at ho; (have e9 := Option.some.inj ho; clear ho; subst e9)
      rcases hs with ⟨_, _, e⟩ | ⟨_, _, e⟩ <;> rw [hdL] at e <;> exact nomatch e
    . have zq0 := H.cells y a hy; obtain ⟨_, oc, zq1⟩ := zq0.1; have hoc := zq1.1; have hdc := zq1.2; clear zq0
      rw [hoc] at ho; (have e9 := Option.some.inj ho; clear ho; subst e9)
      rcases hs with ⟨_, _, e⟩ | ⟨_, _, e⟩ <;> rw [hdc] at e <;> exact nomatch e
  have hM : ∀ a ∈ ρ.M, ¬ Own env a := by
    intro a ha ho
    rcases ho with rfl | ⟨y, hy⟩
    . exact H.offL.1 ha
    . exact (H.cells y a hy).2.1 ha
  have ne : ∀ (j : Nat) y, vars[j]? = some y -> y = x -> j = i := by
    intro j y hj e
    subst e
    exact (List.getElem?_inj (List.getElem?_eq_some_iff.mp hj).1 nd).mp (hj.trans hi.symm)
  rcases hv with hv | hv
  . refine wpAny_storeName_local hv hn (fun h' hn' hs => ?_) (by rw [H.ok.fn]; rfl)
    have k : ∀ a o, ¬ Own env a -> s.heap.get? a = some o -> h'.get? a = some o := fun a o na e => (hs.2 a (fun q => na (.inl q))).trans e
    have zq0 := H.dyn.other k hM hS; have D := zq0.1; have S := zq0.2; clear zq0
    have kc : ∀ y c, env.cells.lookup y = some c -> ∀ v', s.heap.IsCell c v' -> h'.IsCell c v' := by
      intro y c hc v' ⟨oc, hoc, hdc⟩
      refine ⟨oc, (hs.2 c (fun q => ?_)).trans hoc, hdc⟩
      subst q
      rw [hoL] at hoc; (have e9 := Option.some.inj hoc; clear hoc; subst e9); rw [hdL] at hdc; cases hdc
    refine h h' _ ⟨D, S.stays H.st H.dyn.off (fun a ha => ?_), H.ok, ⟨_, hn'⟩, fun j y av' hj hvis hf hu => ?_, H.offL, fun y c hc => ?_, H.cinj, H.cellOf⟩ S
    . rcases ha with rfl | ⟨y, hy⟩
      . exact H.offL.2
      . exact (H.cells y a hy).2.2
    . by_cases hji : j = i
      . subst hji
        rw [hi] at hj; (have e9 := Option.some.inj hj; clear hj; subst e9)
        have hav : av' = av := by
          rw [List.getElem?_set] at hf
          split at hf
          . split at hf <;> cases hf; rfl
          . rename_i q; exact absurd rfl q
        subst hav
        exact ⟨v, .inl ⟨hv, _, hn', by simp⟩, RV.mono S hS hr⟩
      . have hf' : fr[j]? = some av' := by rw [List.getElem?_set] at hf; rw [if_neg (fun q => hji q.symm)] at hf; exact hf
        have hyx : y ≠ x := fun e => hji (ne j y hj e)
        obtain ⟨v', zq0⟩ := H.loc j y av' hj hvis hf' hu; have hh := zq0.1; have hr' := zq0.2
        refine ⟨v', ?_, RV.mono S hS hr'⟩
        rcases hh with ⟨k', m', hn2, hm'⟩ | ⟨k', c, hc, hcell⟩
        . refine .inl ⟨k', _, hn', ?_⟩
          rw [Ns.uniq hn2 hn] at hm'
          simp only [if_neg hyx]; exact hm'
        . exact .inr ⟨k', c, hc, kc y c hc _ hcell⟩
    . have zq0 := H.cells y c hc; obtain ⟨v', hcell⟩ := zq0.1; have a := zq0.2.1; have b := zq0.2.2; clear zq0
      exact ⟨⟨v', kc y c hc _ hcell⟩, a, b⟩
  . have hvis : Vis env x := .inr (.inl hv)
    obtain ⟨c, hc⟩ := H.cellOf x hv
    have zq0 := H.cells x c hc; obtain ⟨vD, hcell⟩ := zq0.1; have hcM := zq0.2.1; have hcg := zq0.2.2; clear zq0
    obtain ⟨oc, zq0⟩ := id hcell; have hoc := zq0.1; have hdc := zq0.2
    have hcL : c ≠ env.locals := by
      intro q; subst q
      rw [hoL] at hoc; (have e9 := Option.some.inj hoc; clear hoc; subst e9); rw [hdL] at hdc; cases hdc
    refine wpAny_storeName_cell H.ok.fn hv hc hcell fun h' hcell' hs => ?_
    have k : ∀ a o, ¬ Own env a -> s.heap.get? a = some o -> h'.get? a = some o := fun a o na e => (hs.2 a (fun q => na (.inr ⟨x, q ▸ hc⟩))).trans e
    have zq0 := H.dyn.other k hM hS; have D := zq0.1; have S := zq0.2; clear zq0
    have kL : ∀ m', s.heap.Ns env.locals m' -> h'.Ns env.locals m' := fun m' hn' => hn'.sameBut hs (fun q => hcL q.symm)
    have kc : ∀ y c', y ≠ x -> env.cells.lookup y = some c' -> ∀ v', s.heap.IsCell c' v' -> h'.IsCell c' v' := by
      intro y c' hy hc' v' ⟨o', ho', hd'⟩
      exact ⟨o', (hs.2 c' (fun q => hy (H.cinj y x c' hc' (q ▸ hc)))).trans ho', hd'⟩
    refine h h' s.toks ⟨D, S.stays H.st H.dyn.off (fun a ha => ?_), H.ok, ⟨_, kL _ hn⟩, fun j y av' hj hvis' hf hu => ?_, H.offL, fun y c' hc' => ?_, H.cinj, H.cellOf⟩ S
    . rcases ha with rfl | ⟨y, hy⟩
      . exact H.offL.2
      . exact (H.cells y a hy).2.2
    . by_cases hji : j = i
      . subst hji
        rw [hi] at hj; (have e9 := Option.some.inj hj; clear hj; subst e9)
        have hav : av' = av := by
          rw [List.getElem?_set] at hf
          split at hf
          . split at hf <;> cases hf; rfl
          . rename_i q; exact absurd rfl q
        subst hav
        exact ⟨v, .inr ⟨.inl hv, c, hc, hcell'⟩, RV.mono S hS hr⟩
      . have hf' : fr[j]? = some av' := by rw [List.getElem?_set] at hf; rw [if_neg (fun q => hji q.symm)] at hf; exact hf
        have hyx : y ≠ x := fun e => hji (ne j y hj e)
        obtain ⟨v', zq0⟩ := H.loc j y av' hj hvis' hf' hu; have hh := zq0.1; have hr' := zq0.2
        refine ⟨v', ?_, RV.mono S hS hr'⟩
        rcases hh with ⟨k', m', hn2, hm'⟩ | ⟨k', c', hc', hcell2⟩
        . exact .inl ⟨k', m', kL _ hn2, hm'⟩
        . exact .inr ⟨k', c', hc', kc y c' hyx hc' _ hcell2⟩
    . by_cases hyx : y = x
      . subst hyx
        rw [hc] at hc'; (have e9 := Option.some.inj hc'; clear hc'; subst e9)
        exact ⟨⟨_, hcell'⟩, hcM, hcg⟩
      . have zq0 := H.cells y c' hc'; obtain ⟨v', hcell2⟩ := zq0.1; have a := zq0.2.1; have b := zq0.2.2; clear zq0
        exact ⟨⟨v', kc y c' hyx hc' _ hcell2⟩, a, b⟩
theorem opt_handed {o : Option Int} {v : Value} {h : Heap} (r : RV ρ σ h (AV.ofOpt o) v) : handedIn v = true := by
  induction o using Option.casesOn with
  | none => rw [RV.none_inv r]; rfl
  | some i => obtain ⟨t, rfl⟩ := RV.int_inv r; rfl
theorem slot_handed {k : Sl} {v : Value} (D : Dyn g ρ σ s.heap) (r : RV ρ σ s.heap (σ.slot k) v) : handedIn v = true := by
  cases k with
  | vtables => rw [RV.vts_inv r]; rfl
  | vne =>
    have r : RV ρ σ s.heap (match σ.vne with | Option.none => .unb | Option.some o => AV.ofOpt o) v := r
    induction hv : σ.vne using Option.casesOn with
    | none => rw [hv] at r; exact r.inv.elim
    | some o => rw [hv] at r; exact opt_handed r
  | shared => rw [RV.none_inv r]; rfl
  | oend => exact opt_handed (o := σ.oend) r
  | nested => rw [RV.bool_inv r]; rfl
  | minalign => obtain ⟨t, rfl⟩ := RV.int_inv r; rfl
  | head => obtain ⟨t, rfl⟩ := RV.int_inv r; rfl
  | force => rw [RV.bool_inv r]; rfl
  | fin => rw [RV.bool_inv r]; rfl
  | cv =>
    have r : RV ρ σ s.heap (match σ.cv with | Option.none => .none | Option.some _ => .cv σ.cvv) v := r
    have hc := D.cv
    induction hv : σ.cv using Option.casesOn with
    | none => rw [hv] at r; rw [RV.none_inv r]; rfl
    | some l =>
      rw [hv] at r hc
      induction hq : ρ.cv using Option.casesOn with
      | none => rw [hq] at hc; exact hc.elim
      | some c => rw [r.cv_inv rfl c hq]; rfl
  | bytes => rw [RV.bb_inv r rfl]; rfl
theorem wpSlot_inv {k : Sl} {o : AV} {Kc : AV -> St -> Prop} (hw : wpSlot k o σ Kc) : o = .bld /\ σ.slot k ≠ .unb /\ Kc (σ.slot k) σ := by
  induction o using AV.casesOn with
  | bld =>
    refine ⟨rfl, ?_⟩
    have hw : (match σ.slot k with | .unb => False | v => Kc v σ) := hw
    revert hw
    cases σ.slot k <;> intro hw <;> first | exact hw.elim | exact ⟨AV.noConfusion, hw⟩
  | _ => exact False.elim hw
theorem get_slot_sound (T : Stat K g) (KF : KFacts K) {k : Sl} {o : AV} {v : Value} {ex : Bool} {Kc : AV -> St -> Prop} {Q : Value -> Shared -> Prop} (st : g.StaysIn s.heap) (D : Dyn g ρ σ s.heap) (ro : RV ρ σ s.heap o v) (hw : wpSlot k o σ Kc) (hP : PostE g ρ σ s Kc Q) :
    wpAny (model prog w) A (getAttr v k.name ex) Q E s := by
  have zq0 := wpSlot_inv hw; obtain rfl := zq0.1; have hu := zq0.2.1; have hk := zq0.2.2; clear zq0
  obtain rfl := ro.bld_inv
  have zq0 := KF.slots k; have a1 := zq0.1; have a2 := zq0.2.1; have a3 := zq0.2.2.1; have a4 := zq0.2.2.2.1; have a5 := zq0.2.2.2.2.1; have a6 := zq0.2.2.2.2.2.1; have a7 := zq0.2.2.2.2.2.2.1; have a8 := zq0.2.2.2.2.2.2.2; clear zq0
  refine bcn fun nG => ?_; obtain ⟨sl, zq0⟩ := D.ob; have e1 := zq0.1; have e2 := zq0.2.1; have e3 := zq0.2.2
  have X : K.In s.heap := T.X.keeps st
  have I : InstAt s.heap ρ.b _ 729 (some (dictOf [] 0)) := ⟨e1, rfl, rfl, D.dx⟩
  obtain ⟨v, zq0⟩ := e3 k hu; have hv := zq0.1; have hr := zq0.2
  have hh : handedIn v = true := slot_handed D hr
  refine nG ?_; exact get_bind X I (plainGet_of a1).1 (findObj_data a2 a3 a4 a5) (plainGet_of a1).2 (wpAny_call (slot_get (s := { s with toks := s.toks + 1 }) X I a6 hv (handed_on hh (hP _ _ ρ σ s.heap _ hk D (Stp.refl ..) hr))))
theorem tyOf_int : typeOf (.type "int") = pure (.type "type") := by kernel_rfl
theorem tyGet_none : typeLookup (.type "type") "__get__" = pure none := by rw [typeLookup_type, builtinLookup_eq_fast]; kernel_rfl
theorem tga_int {c : Value} {name : Str} {tk : Tok} {Q : Fin -> Shared -> Prop} (X : K.In s.heap) (ho : Looks (model prog w) s.heap (opaqueClassAbove c) none) (ht : Looks (model prog w) s.heap (typeOf c) (.type "type"))
    (e1 : findIn K (.type "type") name = some none) (e2 : findIn K c name = some (some (.type "int"))) (h : Q (.done (.ret (.type "int"))) s) : wpAny (model prog w) A (Builtin.«type.__getattribute__» ⟨[c, .str name tk], []⟩) Q E s := by
  obtain ⟨hh, g, d, t, os⟩ := s
  dsimp only at X ho ht
  unfold Builtin.«type.__getattribute__»
  refine wpAny_bind (wpAny_pure (wpAny_bind (ho.at (wpAny_bind (ht.at (wpAny_bind ((looks_findIn (M := model prog w) X e1).at ?_)))))))
  refine wpAny_bind (wpAny_pure ?_)
  refine wpAny_bind ((looks_findIn (M := model prog w) X e2).at ?_)
  dsimp only
  rw [show Builtin.heldUnderItsOwnName name (.type "int") = false from rfl, if_neg Bool.false_ne_true]
  refine wpAny_bind (wpAny_of_eq tyOf_int ?_)
  rw [if_neg (by decide +kernel)]
  refine wpAny_bind ?_
  show wpAny _ _ (typeOf (.type "int") >>= fun t => typeLookup t "__get__") _ _ _
  rw [tyOf_int]
  refine wpAny_bind (wpAny_pure (wpAny_of_eq tyGet_none ?_))
  exact wpAny_bind (wpAny_pure (wpAny_pure h))
theorem cls_int {C : Addr} {name : Str} {expr : Bool} {Q : Value -> Shared -> Prop} (X : K.In s.heap) (hr : readsIn K C (.type "type") = true) (e1 : findIn K (.type "type") name = some none) (e2 : findIn K (.ref C) name = some (some (.type "int")))
    (h : Q (.type "int") { s with toks := s.toks + 1 }) : wpAny (model prog w) A (getAttr (.ref C) name expr) Q E s := by
  simp only [readsIn, Bool.and_eq_true, beq_iff_eq] at hr
  refine bcn fun nG => ?_; obtain ⟨⟨⟨⟨a, b⟩, hga⟩, d⟩, hi⟩ := hr
  obtain ⟨hook, d⟩ := Option.isSome_iff_exists.mp d
  have ho := looks_opaque (M := model prog w) (C := C) X a
  have ht := looks_typeIn (M := model prog w) X b
  have hb := looks_hook (M := model prog w) X d
  refine nG ?_; refine wpAny_bind (wpAny_mkText (wpAny_holding (wpAny_bind (ht _ _ _ _ (fun _ _ e => e) (wpAny_bind (looks_findIn X hga _ _ _ _ (fun _ _ e => e) ?_))))))
  dsimp only
  rw [show (onTheHeap (.type "type") && Value.builtin "type.__getattribute__" == Value.builtin "object.__getattribute__") = false from by rw [show (Value.builtin "type.__getattribute__" == Value.builtin "object.__getattribute__") = false from by decide +kernel, Bool.and_false], if_neg (by decide)]
  refine wpAny_bind (hb _ _ _ _ (fun _ _ e => e) (wpAny_bind (wpAny_attempt (wpAny_holding ?_))))
  unfold callGetattribute
  rw [show (expr && onTheHeap (Value.builtin "type.__getattribute__")) = false from Bool.and_false _, if_neg (by decide)]
  unfold boundAndCalled
  rw [PySem.W.KF.slot_tga.bind]
  refine wpAny_bind (wpAny_pure ?_)
  show wpAny _ _ (call (.builtin "type.__getattribute__") [.ref C, .str name s.toks]) _ _ _
  refine wpAny_call ?_
  refine codeAny_call_builtin PySem.W.KF.slot_tga.plain PySem.W.KF.entry_tga ?_
  refine @check_slot (model prog w) _ _ { s with toks := s.toks + 1 } "type.__getattribute__" "type" "__getattribute__" (.ref C) [.str name s.toks] [] _ (by decide +kernel) (by decide +kernel) (ht.andThen (looks_subIn X hi)) (PySem.W.KF.args_tga (.ref C) (.str name s.toks)) ?_
  refine tga_int (s := { s with toks := s.toks + 1 }) X ho ht e1 e2 ?_
  exact wpAny_pure h
theorem wpCattr_inv {x : CA} {o : AV} {Kc : AV -> St -> Prop} (hw : wpCattr x o σ Kc) : ∃ c, o = .cst (.ref c) /\ cI c x ≠ .unb /\ Kc (cI c x) σ := by
  induction o using AV.casesOn with
  | cst v =>
    induction v using Value.casesOn with
    | ref c =>
      refine ⟨c, rfl, ?_⟩
      have hw : (match cI c x with | .unb => False | v => Kc v σ) := hw
      revert hw
      cases cI c x <;> intro hw <;> first | exact hw.elim | exact ⟨AV.noConfusion, hw⟩
    | _ => exact False.elim hw
  | _ => exact False.elim hw
theorem cattr_sound (T : Stat K g) (KF : KFacts K) {x : CA} {o : AV} {v : Value} {ex : Bool} {Kc : AV -> St -> Prop} {Q : Value -> Shared -> Prop} (st : g.StaysIn s.heap) (D : Dyn g ρ σ s.heap) (ro : RV ρ σ s.heap o v) (hw : wpCattr x o σ Kc) (hP : PostE g ρ σ s Kc Q) :
    wpAny (model prog w) A (getAttr v x.name ex) Q E s := by
  obtain ⟨c, rfl, hu, hk⟩ := wpCattr_inv hw
  obtain rfl := ro.cst_inv
  by_cases hx : x = .py_type
  . subst hx
    refine bcn fun nG => ?_; obtain ⟨a1, a2, a3⟩ := KF.pyty c hu
    refine nG ?_; refine cls_int (T.X.keeps st) a1 a2 a3 (hP _ _ ρ σ s.heap _ hk D (Stp.refl ..) ?_)
    rw [show cI c .py_type = .cst (.type "int") from pyty_is hu]; exact .cst _
  refine bcn fun nG => ?_; obtain ⟨a1, u, a2, a3, a4⟩ := KF.cattr c x hx hu
  refine nG ?_; refine cls_value (T.X.keeps st) a1 a2 a3 (hP _ _ ρ σ s.heap _ hk D (Stp.refl ..) ?_)
  revert a4
  induction cI c x using AV.casesOn with
  | int i => rintro ⟨t, rfl⟩; exact .int _ _
  | bool b => rintro rfl; exact .bool _
  | cst u => rintro rfl; exact .cst _
  | _ => exact False.elim
end
end Fb
namespace Fb
noncomputable def allBut (h : Heap) (L x : Addr) : List (Addr × Obj) := (List.range h.objs.size).filterMap fun a => if a = L \/ a = x then none else (h.get? a).map fun o => (a, o)
theorem fW {h : Heap} {L x a : Addr} {o : Obj} : (a, o) ∈ allBut h L x ↔ (a ≠ L /\ a ≠ x) /\ h.get? a = some o := by
  unfold allBut
  rw [List.mem_filterMap]
  constructor
  . rintro ⟨b, hb, e⟩
    split at e
    . exact nn e
    . rename_i hn
      induction hq : h.get? b using Option.casesOn with
      | none => rw [hq] at e; exact nn e
      | some o' => rw [hq] at e; cases e; exact ⟨⟨fun q => hn (.inl q), fun q => hn (.inr q)⟩, hq⟩
  . rintro ⟨⟨h1, h2⟩, e⟩
    refine ⟨a, List.mem_range.mpr (Heap.lt_size e), ?_⟩
    rw [if_neg (fun q => q.elim h1 h2), e]; rfl
noncomputable def noHeap : Heap := {}
theorem jE (a : Addr) : noHeap.get? a = none := by
  unfold Heap.get? noHeap
  simp
theorem frAll {h : Heap} {L : Addr} {m : Str -> Option Value} (hn : h.Ns L m) : Fr noHeap L h m := ⟨hn, fun b o e => (by rw [jE] at e; exact nn e), Nat.zero_le _⟩
section
variable {prog : Program} {w : World} {A : Around} {E : Value -> Shared -> Prop} {s : Shared} {g : Heap} {ρ : Ad} {σ : St} {n : Nat} {env : Env} {vars : List Str} {fr : List AV} {K : Frag}
theorem iE (KF : KFacts K) (X : K.In s.heap) {k : Sl} {b dx L : Addr} {sl : Array (Option Value)} {m : Str -> Option Value} {v : Value} {Q : Unit -> Shared -> Prop} (e1 : s.heap.get? b = some ⟨.ref 729, some dx, .plain, sl⟩) (hsz : sl.size = 11)
    (edx : s.heap.get? dx = some (dictOf [] 0)) (hn : s.heap.Ns L m) (hL : L ≠ b)
    (h : ∀ h', h'.Ns L m -> h'.get? b = some ⟨.ref 729, some dx, .plain, sl.setIfInBounds k.idx (some v)⟩ -> (∀ a o, a ≠ L -> a ≠ b -> s.heap.get? a = some o -> h'.get? a = some o) -> Q () (Fb.sh s h' (s.toks + 1))) :
    wpAny (model prog w) A (setAttr (.ref b) k.name v) Q E s := by
  have zq0 := KF.slots k; have a1 := zq0.1; have a2 := zq0.2.1; have a3 := zq0.2.2.1; have a4 := zq0.2.2.2.1; have a5 := zq0.2.2.2.2.1; have a6 := zq0.2.2.2.2.2.1; have a7 := zq0.2.2.2.2.2.2.1; have a8 := zq0.2.2.2.2.2.2.2; clear zq0
  have I : InstAt s.heap b _ 729 (some (dictOf [] 0)) := ⟨e1, rfl, rfl, edx⟩
  have hk : k.idx < 11 := by induction k using Sl.casesOn <;> decide
  refine set_plain X I KF.setat.1 (osa_descr (s := { s with toks := s.toks + 1 }) PySem.W.KF.slot_mset X I KF.setat.2 a7 a8
    (slot_set (s := { s with toks := s.toks + 1 }) (h₀ := noHeap) (L := L) (m := m) (pre := allBut s.heap L b) (post := []) (ox' := ⟨.ref 729, some dx, .plain, sl.setIfInBounds k.idx (some v)⟩) (frAll hn) ?_ X I a6 (Nat.lt_trans hk (by decide)) ?_ (fun _ hp => nomatch hp) ?_ rfl fun h' F' N' => ?_))
  . intro p hp
    rcases List.mem_append.mp hp with hp | hp
    . have zq0 := fW.mp hp; have q1 := zq0.1.1; have q2 := zq0.1.2; have q3 := zq0.2; clear zq0; exact ⟨q3, q1, jE _⟩
    . cases hp with
      | head => exact ⟨e1, fun q => hL q.symm, jE _⟩
      | tail _ hp => exact nomatch hp
  . intro p hp; exact (fW.mp hp).1.2
  . have hz : k.idx + 1 - sl.size = 0 := Nat.sub_eq_zero_of_le (hsz ▸ hk)
    simp only [hz, Array.replicate_zero, Array.append_empty]
  . exact h h' F'.ns (N' (b, _) (List.mem_append_right _ (.head _))).1 fun a o q1 q2 e => (N' (a, o) (List.mem_append_left _ (fW.mpr ⟨⟨q1, q2⟩, e⟩))).1
theorem Act.stepN {ρ' : Ad} {σ' : St} {h h' : Heap} (H : Act g ρ σ env vars fr h) (D : Dyn g ρ' σ' h') (x : Stp (fun a => a = env.locals) ρ σ h ρ' σ' h') (hn : ∀ m, h.Ns env.locals m -> h'.Ns env.locals m) (hL : env.locals ∉ ρ'.M) : Act g ρ' σ' env vars fr h' := by
  refine bcn fun nG => ?_; obtain ⟨m, hm⟩ := H.ns
  obtain ⟨oL, esL, epL, zq0⟩ := id hm; have hoL := zq0.1; have hdL := zq0.2.1
  have hS : ∀ a o, a = env.locals -> h.get? a = some o -> ¬ Seqy o := by
    rintro a o rfl ho hs
    rw [hoL] at ho; (have e9 := Option.some.inj ho; clear ho; subst e9)
    rcases hs with ⟨_, _, e⟩ | ⟨_, _, e⟩ <;> rw [hdL] at e <;> exact nomatch e
  have hcL : ∀ y c, env.cells.lookup y = some c -> c ≠ env.locals := by
    intro y c hc q
    have zq0 := H.cells y c hc; obtain ⟨_, oc, zq1⟩ := zq0.1; have hoc := zq1.1; have hdc := zq1.2; clear zq0
    subst q; rw [hoL] at hoc; (have e9 := Option.some.inj hoc; clear hoc; subst e9); rw [hdL] at hdc; cases hdc
  refine nG ?_; refine ⟨D, x.stays H.st H.dyn.off (fun a q => q ▸ H.offL.2), H.ok, ⟨m, hn m hm⟩, fun i y av hi hvis hf hu => ?_, ⟨hL, H.offL.2⟩, fun y c hc => ?_, H.cinj, H.cellOf⟩
  . obtain ⟨v, zq0⟩ := H.loc i y av hi hvis hf hu; have hv := zq0.1; have hr := zq0.2
    refine ⟨v, ?_, RV.mono x hS hr⟩
    rcases hv with ⟨k, m', hm', e⟩ | ⟨k, c, hc, oc, ho', hd'⟩
    . exact .inl ⟨k, m', hn m' hm', e⟩
    . exact .inr ⟨k, c, hc, oc, (x.keep _ _ (H.cells y c hc).2.1 (hcL y c hc) ho').1, hd'⟩
  . have zq0 := H.cells y c hc; obtain ⟨v, oc, zq1⟩ := zq0.1; have ho' := zq1.1; have hd' := zq1.2; have h2 := zq0.2.1; have h3 := zq0.2.2; clear zq0
    have kc := x.keep _ _ h2 (hcL y c hc) ho'
    exact ⟨⟨v, oc, kc.1, hd'⟩, kc.2, h3⟩
theorem Act.notSeq {h : Heap} (H : Act g ρ σ env vars fr h) : ∀ a o, a = env.locals -> h.get? a = some o -> ¬ Seqy o := by
  refine bcn fun nG => ?_; obtain ⟨m, oL, esL, epL, zq0⟩ := H.ns; have hoL := zq0.1; have hdL := zq0.2.1
  refine nG ?_; rintro a o rfl ho hs
  rw [hoL] at ho; cases ho
  rcases hs with ⟨_, _, e⟩ | ⟨_, _, e⟩ <;> rw [hdL] at e <;> cases e
theorem own_of_L {a : Addr} (e : a = env.locals) : Own env a := .inl e
theorem Ab_ne {h : Heap} (D : Dyn g ρ σ h) : ρ.b ≠ ρ.dx /\ ρ.b ≠ ρ.ba /\ ρ.b ≠ ρ.vd /\ ρ.b ≠ ρ.pl /\ ρ.b ≠ ρ.bx /\ (∀ a ∈ ρ.cv, ρ.b ≠ a) /\ (∀ a ∈ ρ.tb, ρ.b ≠ a) /\ ∀ a ∈ ρ.tl, ρ.b ≠ a := by
  have n : ∀ a ∈ ρ.dx :: ρ.ba :: ρ.vd :: ρ.pl :: ρ.bx :: (ρ.cv.toList ++ (ρ.tb.toList ++ ρ.tl.toList)), ρ.b ≠ a := fun a ha e => (List.nodup_cons.mp D.nodup).1 (e ▸ ha)
  have m : ∀ a ∈ ρ.cv.toList ++ (ρ.tb.toList ++ ρ.tl.toList), ρ.b ≠ a := fun a ha => n a (.tail _ (.tail _ (.tail _ (.tail _ (.tail _ ha)))))
  exact ⟨n _ (.head _), n _ (.tail _ (.head _)), n _ (.tail _ (.tail _ (.head _))), n _ (.tail _ (.tail _ (.tail _ (.head _)))), n _ (.tail _ (.tail _ (.tail _ (.tail _ (.head _))))),
    fun a h => m a (List.mem_append_left _ (Option.mem_toList.mpr h)), fun a h => m a (List.mem_append_right _ (List.mem_append_left _ (Option.mem_toList.mpr h))), fun a h => m a (List.mem_append_right _ (List.mem_append_right _ (Option.mem_toList.mpr h)))⟩
theorem dyn_slot {h h' : Heap} {σ' : St} {sl : Array (Option Value)} {k : Sl} {v : Value} {L : Addr} (D : Dyn g ρ σ h) (hS : ∀ a o, a = L -> h.get? a = some o -> ¬ Seqy o) (hL : L ∉ ρ.M)
    (e1 : h.get? ρ.b = some ⟨.ref 729, some ρ.dx, .plain, sl⟩) (hsz : sl.size = 11)
    (e2 : h'.get? ρ.b = some ⟨.ref 729, some ρ.dx, .plain, sl.setIfInBounds k.idx (some v)⟩) (keep : ∀ a o, a ≠ L -> a ≠ ρ.b -> h.get? a = some o -> h'.get? a = some o)
    (c1 : σ'.core = σ.core)
    (c2 : ∀ j, j ≠ k -> σ'.slot j = σ.slot j) (r : RV ρ σ h (σ'.slot k) v) :
    Dyn g ρ σ' h' /\ Stp (fun a => a = L) ρ σ h ρ σ' h' := by
  have v1 : σ'.ver = σ.ver := congrArg (·.1.1) c1
  have v2 : σ'.tbv = σ.tbv := congrArg (·.1.2.1) c1
  have v3 : σ'.tlv = σ.tlv := congrArg (·.1.2.2.1) c1
  have v4 : σ'.cvv = σ.cvv := congrArg (·.1.2.2.2) c1
  have w1 : σ'.bytes = σ.bytes := congrArg (·.2.1.1) c1
  have w2 : σ'.cv = σ.cv := congrArg (·.2.1.2.1) c1
  have w3 : σ'.vts = σ.vts := congrArg (·.2.1.2.2.1) c1
  have w4 : σ'.tb = σ.tb := congrArg (·.2.1.2.2.2.1) c1
  have w5 : σ'.tl = σ.tl := congrArg (·.2.1.2.2.2.2) c1
  have w6 : σ'.pile = σ.pile := congrArg (·.2.2.1) c1
  have w7 : σ'.pmax = σ.pmax := congrArg (·.2.2.2.1) c1
  have w8 : σ'.script = σ.script := congrArg (·.2.2.2.2.1) c1
  have w9 : σ'.bi = σ.bi := congrArg (·.2.2.2.2.2) c1
  have S : Stp (fun a => a = L) ρ σ h ρ σ' h' := ⟨rfl, rfl, rfl, rfl, rfl, rfl, ⟨Nat.le_of_eq v1.symm, fun _ => rfl⟩, ⟨Nat.le_of_eq v2.symm, fun _ _ e => e⟩, ⟨Nat.le_of_eq v3.symm, fun _ _ e => e⟩, ⟨Nat.le_of_eq v4.symm, fun _ _ e => e⟩,
    fun a o m np e => ⟨keep a o np (fun q => m (q ▸ M_b)) e, m⟩⟩
  have zq0 := Ab_ne D; have n1 := zq0.1; have n2 := zq0.2.1; have n3 := zq0.2.2.1; have n4 := zq0.2.2.2.1; have n5 := zq0.2.2.2.2.1; have n6 := zq0.2.2.2.2.2.1; have n7 := zq0.2.2.2.2.2.2.1; have n8 := zq0.2.2.2.2.2.2.2; clear zq0
  have kM : ∀ a ∈ ρ.M, a ≠ ρ.b -> ∀ o, h.get? a = some o -> h'.get? a = some o := fun a ha hb o e => keep a o (fun q => hL (q ▸ ha)) hb e
  obtain ⟨sl0, zq0⟩ := D.ob; have f1 := zq0.1; have f2 := zq0.2.1; have f3 := zq0.2.2
  rw [e1] at f1; cases f1
  have hk : k.idx < sl.size := hsz ▸ k.idx_lt
  refine ⟨⟨⟨_, e2, Array.size_setIfInBounds.trans hsz, fun j hj => ?_⟩, kM _ M_dx n1.symm _ D.dx, ?_, ?_, ?_, ?_, ?_, ?_, ?_, ?_, D.nodup, D.off, D.rsoff, fun a ha => ?_⟩, S⟩
  . by_cases hjk : j = k
    . subst hjk
      refine ⟨v, ?_, RV.mono S hS r⟩
      rw [Array.getElem?_setIfInBounds_self_of_lt hk]; rfl
    . rw [c2 j hjk] at hj ⊢
      obtain ⟨u, zq0⟩ := f3 j hj; have a := zq0.1; have b := zq0.2
      refine ⟨u, ?_, RV.mono S hS b⟩
      rw [Array.getElem?_setIfInBounds_ne (Sl.idx_ne fun q => hjk q.symm)]; exact a
  . rw [w1]; exact kM _ M_ba n2.symm _ D.ba
  . obtain ⟨o, es, n, xs, zq0⟩ := D.vd; have a := zq0.1; have b := zq0.2.1; have c := zq0.2.2.1; have d := zq0.2.2.2.1; have e := zq0.2.2.2.2.1; have f := zq0.2.2.2.2.2.1; have r := zq0.2.2.2.2.2.2
    rw [w3]
    exact ⟨o, es, n, xs, kM _ M_vd n3.symm _ a, b, c, d, e, f, fun x hx => RV.mono S hS (r x hx)⟩
  . exact D.vd1
  . rw [w2]; exact D.cv.keep fun b hb o e => kM b (cvM hb) (n6 b hb).symm o e
  . rw [w4]; exact D.tb.keep fun b hb o e => kM b (tbM hb) (n7 b hb).symm o e
  . rw [w5]; exact D.tl.keep fun b hb o e => kM b (tlM hb) (n8 b hb).symm o e
  . rw [w6, w7]; obtain ⟨pa, t, zq0⟩ := D.pl; have a := zq0.1; have b := zq0.2; exact ⟨pa, t, aU a (kM _ M_pl n4.symm), RV.mono S hS b⟩
  . rw [w8, w9]; obtain ⟨pa, t, zq0⟩ := D.bx; have a := zq0.1; have b := zq0.2; exact ⟨pa, t, aU a (kM _ M_bx n5.symm), RV.mono S hS b⟩
  . obtain ⟨o, zq0⟩ := D.rsin a ha; have e := zq0.1; have q := zq0.2
    exact ⟨o, (S.keep _ _ (fun m => D.rsoff a m ha) (fun hp => hS _ _ hp e q) e).1, q⟩
theorem dyn_slotG {ρ' : Ad} {h h' : Heap} {σ' : St} {sl : Array (Option Value)} {k : Sl} {v : Value} {L : Addr} (D : Dyn g ρ σ h) (hS : ∀ a o, a = L -> h.get? a = some o -> ¬ Seqy o) (hL : L ∉ ρ.M)
    (e1 : h.get? ρ.b = some ⟨.ref 729, some ρ.dx, .plain, sl⟩) (hsz : sl.size = 11)
    (e2 : h'.get? ρ.b = some ⟨.ref 729, some ρ.dx, .plain, sl.setIfInBounds k.idx (some v)⟩) (keep : ∀ a o, a ≠ L -> a ≠ ρ.b -> h.get? a = some o -> h'.get? a = some o)
    (p1 : ρ'.b = ρ.b /\ ρ'.dx = ρ.dx /\ ρ'.vd = ρ.vd /\ ρ'.pl = ρ.pl /\ ρ'.bx = ρ.bx /\ ρ'.rs = ρ.rs /\ ρ'.tl = ρ.tl) (p2 : ∀ a ∈ ρ'.M, a ∈ ρ.M) (p3 : ρ'.M.Nodup)
    (q1 : σ.ver <= σ'.ver /\ (σ'.ver = σ.ver -> ρ'.ba = ρ.ba)) (q2 : σ.tbv <= σ'.tbv /\ (σ'.tbv = σ.tbv -> ∀ x, ρ'.tb = some x -> ρ.tb = some x)) (q3 : σ'.tlv = σ.tlv) (q4 : σ.cvv <= σ'.cvv /\ (σ'.cvv = σ.cvv -> ∀ x, ρ'.cv = some x -> ρ.cv = some x))
    (c1 : σ'.vts = σ.vts /\ σ'.tl = σ.tl /\ σ'.pile = σ.pile /\ σ'.pmax = σ.pmax /\ σ'.script = σ.script /\ σ'.bi = σ.bi)
    (d1 : h.get? ρ'.ba = some (bob σ'.bytes)) (d1' : ρ'.ba ∈ ρ.M /\ ρ'.ba ≠ ρ.b) (d2 : OptL h σ'.cv ρ'.cv) (d2' : ∀ a ∈ ρ'.cv, a ∈ ρ.M /\ a ≠ ρ.b) (d3 : OptB h σ'.tb ρ'.tb) (d3' : ∀ a ∈ ρ'.tb, a ∈ ρ.M /\ a ≠ ρ.b)
    (c2 : ∀ j, j ≠ k -> σ'.slot j = σ.slot j) (r : ∀ h'', RV ρ' σ' h'' (σ'.slot k) v) :
    Dyn g ρ' σ' h' /\ Stp (fun a => a = L) ρ σ h ρ' σ' h' := by
  have w3 := c1.1; have w5 := c1.2.1; have w6 := c1.2.2.1; have w7 := c1.2.2.2.1; have w8 := c1.2.2.2.2.1; have w9 := c1.2.2.2.2.2; clear c1
  have b1 := p1.1; have b2 := p1.2.1; have b3 := p1.2.2.1; have b4 := p1.2.2.2.1; have b5 := p1.2.2.2.2.1; have b6 := p1.2.2.2.2.2.1; have b7 := p1.2.2.2.2.2.2; clear p1
  have S : Stp (fun a => a = L) ρ σ h ρ' σ' h' := ⟨b1, b2, b3, b4, b5, b6, q1, q2, ⟨Nat.le_of_eq q3.symm, fun _ x e => by rw [b7] at e; exact e⟩, q4,
    fun a o m np e => ⟨keep a o np (fun q => m (q ▸ M_b)) e, fun q => m (p2 a q)⟩⟩
  have zq0 := Ab_ne D; have n1 := zq0.1; have n2 := zq0.2.1; have n3 := zq0.2.2.1; have n4 := zq0.2.2.2.1; have n5 := zq0.2.2.2.2.1; have n6 := zq0.2.2.2.2.2.1; have n7 := zq0.2.2.2.2.2.2.1; have n8 := zq0.2.2.2.2.2.2.2; clear zq0
  have kM : ∀ a ∈ ρ.M, a ≠ ρ.b -> ∀ o, h.get? a = some o -> h'.get? a = some o := fun a ha hb o e => keep a o (fun q => hL (q ▸ ha)) hb e
  obtain ⟨sl0, zq0⟩ := D.ob; have f1 := zq0.1; have f2 := zq0.2.1; have f3 := zq0.2.2
  rw [e1] at f1; cases f1
  have hk : k.idx < sl.size := hsz ▸ k.idx_lt
  refine ⟨⟨⟨_, by rw [b1, b2]; exact e2, Array.size_setIfInBounds.trans hsz, fun j hj => ?_⟩, ?_, kM _ d1'.1 d1'.2 _ d1, ?_, ?_, d2.keep fun b hb o e => kM b (d2' b hb).1 (d2' b hb).2 o e, d3.keep fun b hb o e => kM b (d3' b hb).1 (d3' b hb).2 o e, ?_, ?_, ?_, p3, fun a ha => D.off a (p2 a ha), fun a ha => by rw [b6]; exact D.rsoff a (p2 a ha), fun a ha => ?_⟩, S⟩
  . by_cases hjk : j = k
    . subst hjk
      refine ⟨v, ?_, r _⟩
      rw [Array.getElem?_setIfInBounds_self_of_lt hk]; rfl
    . rw [c2 j hjk] at hj ⊢
      obtain ⟨u, zq0⟩ := f3 j hj; have a := zq0.1; have b := zq0.2
      refine ⟨u, ?_, RV.mono S hS b⟩
      rw [Array.getElem?_setIfInBounds_ne (Sl.idx_ne fun q => hjk q.symm)]; exact a
  . rw [b2]; exact kM _ M_dx n1.symm _ D.dx
  . obtain ⟨o, es, n, xs, zq0⟩ := D.vd; have a := zq0.1; have b := zq0.2.1; have c := zq0.2.2.1; have d := zq0.2.2.2.1; have e := zq0.2.2.2.2.1; have f := zq0.2.2.2.2.2.1; have r := zq0.2.2.2.2.2.2
    rw [w3]
    exact ⟨o, es, n, xs, by rw [b3]; exact kM _ M_vd n3.symm _ a, b, c, d, e, f, fun x hx => RV.mono S hS (r x hx)⟩
  . rw [b3]; exact D.vd1
  . rw [w5, b7]; exact D.tl.keep fun b hb o e => kM b (tlM hb) (n8 b hb).symm o e
  . rw [w6, w7, b4]; obtain ⟨pa, t, zq0⟩ := D.pl; have a := zq0.1; have b := zq0.2; exact ⟨pa, t, aU a (kM _ M_pl n4.symm), RV.mono S hS b⟩
  . rw [w8, w9, b5]; obtain ⟨pa, t, zq0⟩ := D.bx; have a := zq0.1; have b := zq0.2; exact ⟨pa, t, aU a (kM _ M_bx n5.symm), RV.mono S hS b⟩
  . rw [b6] at ha
    obtain ⟨o, zq0⟩ := D.rsin a ha; have e := zq0.1; have q := zq0.2
    exact ⟨o, (S.keep _ _ (fun m => D.rsoff a m ha) (fun hp => hS _ _ hp e q) e).1, q⟩
noncomputable def PostU (g : Heap) (env : Env) (vars : List Str) (fr : List AV) (ρ : Ad) (σ : St) (s : Shared) (Kc : St -> Prop) (Q : Unit -> Shared -> Prop) : Prop :=
  ∀ ρ' σ' h' tk, Kc σ' -> Act g ρ' σ' env vars fr h' -> Stp (Own env) ρ σ s.heap ρ' σ' h' -> Q () (Fb.sh s h' tk)
theorem M_cv0 : ({ ρ with cv := none } : Ad).M.Sublist ρ.M :=
  .cons₂ _ (.cons₂ _ (.cons₂ _ (.cons₂ _ (.cons₂ _ (.cons₂ _ (List.sublist_append_right ρ.cv.toList _))))))
theorem M_tb0 {t : Addr} (hq : ρ.tb = some t) (n : ρ.M.Nodup) : (∀ a ∈ ({ ρ with ba := t, tb := none } : Ad).M, a ∈ ρ.M) /\ ({ ρ with ba := t, tb := none } : Ad).M.Nodup := by
  have hM : ρ.M = ρ.b :: ρ.dx :: ρ.ba :: ρ.vd :: ρ.pl :: ρ.bx :: (ρ.cv.toList ++ (t :: ρ.tl.toList)) := by unfold Ad.M; rw [hq]; rfl
  have sub : (ρ.b :: ρ.dx :: ρ.vd :: ρ.pl :: ρ.bx :: (ρ.cv.toList ++ (t :: ρ.tl.toList))).Sublist ρ.M := by rw [hM]; exact .cons₂ _ (.cons₂ _ (.cons _ (List.Sublist.refl _)))
  have p : ({ ρ with ba := t, tb := none } : Ad).M.Perm (ρ.b :: ρ.dx :: ρ.vd :: ρ.pl :: ρ.bx :: (ρ.cv.toList ++ (t :: ρ.tl.toList))) :=
    .cons _ (.cons _ (List.perm_middle (l₁ := ρ.vd :: ρ.pl :: ρ.bx :: ρ.cv.toList)).symm)
  exact ⟨fun a ha => sub.subset (p.mem_iff.mp ha), p.nodup_iff.mpr (sub.nodup n)⟩
theorem sl_vne (σ : St) (x : Option (Option Int)) : ∀ j : Sl, j ≠ .vne -> St.slot (σ.uVne x) j = σ.slot j := by intro j hj; induction j using Sl.casesOn <;> first | rfl | exact absurd rfl hj
theorem sl_oend (σ : St) (x : Option Int) : ∀ j : Sl, j ≠ .oend -> St.slot (σ.uOend x) j = σ.slot j := by intro j hj; induction j using Sl.casesOn <;> first | rfl | exact absurd rfl hj
theorem sl_nested (σ : St) (x : Bool) : ∀ j : Sl, j ≠ .nested -> St.slot (σ.uNested x) j = σ.slot j := by intro j hj; induction j using Sl.casesOn <;> first | rfl | exact absurd rfl hj
theorem sl_minalign (σ : St) (x : Int) : ∀ j : Sl, j ≠ .minalign -> St.slot (σ.uMinalign x) j = σ.slot j := by intro j hj; induction j using Sl.casesOn <;> first | rfl | exact absurd rfl hj
theorem sl_head (σ : St) (x : Int) : ∀ j : Sl, j ≠ .head -> St.slot (σ.uHead x) j = σ.slot j := by intro j hj; induction j using Sl.casesOn <;> first | rfl | exact absurd rfl hj
theorem sl_fin (σ : St) (x : Bool) : ∀ j : Sl, j ≠ .fin -> St.slot (σ.uFin x) j = σ.slot j := by intro j hj; induction j using Sl.casesOn <;> first | rfl | exact absurd rfl hj
theorem dZ (T : Stat K g) (KF : KFacts K) {k : Sl} {u : Value} {Kc : St -> Prop} {Q : Unit -> Shared -> Prop} (H : Act g ρ σ env vars fr s.heap) (hP : PostU g env vars fr ρ σ s Kc Q)
    (σ' : St) (hk : Kc σ') (c1 : σ'.core = σ.core) (c2 : ∀ j, j ≠ k -> σ'.slot j = σ.slot j) (r : RV ρ σ s.heap (σ'.slot k) u) : wpAny (model prog w) A (setAttr (.ref ρ.b) k.name u) Q E s := by
  refine bcn fun nG => ?_; obtain ⟨sl, zq0⟩ := H.dyn.ob; have e1 := zq0.1; have e2 := zq0.2.1; have e3 := zq0.2.2
  obtain ⟨m, hn⟩ := H.ns
  refine nG ?_; refine iE KF (T.X.keeps H.st) e1 e2 H.dyn.dx hn (fun q => H.offL.1 (q ▸ M_b)) fun h' hn' e' keep => ?_
  have zq0 := dyn_slot H.dyn H.notSeq H.offL.1 e1 e2 e' keep c1 c2 r; have D' := zq0.1; have S' := zq0.2; clear zq0
  exact hP ρ σ' h' _ hk (H.stepN D' S' (fun m' hm' => (Ns.uniq hm' hn) ▸ hn') H.offL.1) (S'.weaken fun _ q => own_of_L q)
theorem sets_cv (T : Stat K g) (KF : KFacts K) {Kc : St -> Prop} {Q : Unit -> Shared -> Prop} (H : Act g ρ σ env vars fr s.heap) (hP : PostU g env vars fr ρ σ s Kc Q) (hk : Kc ((σ.uCv none).uCvv (σ.cvv + 1))) :
    wpAny (model prog w) A (setAttr (.ref ρ.b) (Sl.name .cv) .none) Q E s := by
  have D := H.dyn
  obtain ⟨sl, zq0⟩ := D.ob; have e1 := zq0.1; have e2 := zq0.2.1; have e3 := zq0.2.2
  obtain ⟨m, hn⟩ := H.ns
  have zq0 := Ab_ne D; have n1 := zq0.1; have n2 := zq0.2.1; have n3 := zq0.2.2.1; have n4 := zq0.2.2.2.1; have n5 := zq0.2.2.2.2.1; have n6 := zq0.2.2.2.2.2.1; have n7 := zq0.2.2.2.2.2.2.1; have n8 := zq0.2.2.2.2.2.2.2; clear zq0
  refine iE KF (T.X.keeps H.st) e1 e2 D.dx hn (fun q => H.offL.1 (q ▸ M_b)) fun h' hn' e' keep => ?_
  obtain ⟨D', S'⟩ := dyn_slotG (ρ' := { ρ with cv := none }) (σ' := ((σ.uCv none).uCvv (σ.cvv + 1))) D H.notSeq H.offL.1 e1 e2 e' keep ⟨rfl, rfl, rfl, rfl, rfl, rfl, rfl⟩
    (fun a ha => M_cv0.subset ha) (M_cv0.nodup D.nodup)
    ⟨Nat.le_refl _, fun _ => rfl⟩ ⟨Nat.le_refl _, fun _ _ e => e⟩ rfl ⟨Nat.le_succ _, fun e => absurd e (Nat.succ_ne_self _)⟩ ⟨rfl, rfl, rfl, rfl, rfl, rfl⟩
    D.ba ⟨M_ba, n2.symm⟩ trivial (fun a q => nomatch q) D.tb (fun a q => ⟨tbM (ρ := ρ) q, (n7 a q).symm⟩)
    (fun j hj => by induction j using Sl.casesOn <;> first | rfl | exact absurd rfl hj) (fun _ => .none)
  exact hP _ _ h' _ hk (H.stepN D' S' (fun m' hm' => (Ns.uniq hm' hn) ▸ hn') (fun q => H.offL.1 (M_cv0.subset q))) (S'.weaken fun _ q => own_of_L q)
theorem sets_bytes (T : Stat K g) (KF : KFacts K) {t : Addr} {l : List UInt8} {Kc : St -> Prop} {Q : Unit -> Shared -> Prop} (H : Act g ρ σ env vars fr s.heap) (hP : PostU g env vars fr ρ σ s Kc Q) (hl : σ.tb = some l) (hq : ρ.tb = some t)
    (hk : Kc ((((σ.uBytes l).uVer (σ.ver + 1)).uTb none).uTbv (σ.tbv + 1))) : wpAny (model prog w) A (setAttr (.ref ρ.b) (Sl.name .bytes) (.ref t)) Q E s := by
  have D := H.dyn
  obtain ⟨sl, zq0⟩ := D.ob; have e1 := zq0.1; have e2 := zq0.2.1; have e3 := zq0.2.2
  obtain ⟨m, hn⟩ := H.ns
  have htb := D.tb
  rw [hl, hq] at htb
  have zq0 := Ab_ne D; have n1 := zq0.1; have n2 := zq0.2.1; have n3 := zq0.2.2.1; have n4 := zq0.2.2.2.1; have n5 := zq0.2.2.2.2.1; have n6 := zq0.2.2.2.2.2.1; have n7 := zq0.2.2.2.2.2.2.1; have n8 := zq0.2.2.2.2.2.2.2; clear zq0
  have zq0 := M_tb0 hq D.nodup; have hMsub := zq0.1; have hMnd := zq0.2; clear zq0
  refine iE KF (T.X.keeps H.st) e1 e2 D.dx hn (fun q => H.offL.1 (q ▸ M_b)) fun h' hn' e' keep => ?_
  obtain ⟨D', S'⟩ := dyn_slotG (ρ' := { ρ with ba := t, tb := none }) (σ' := ((((σ.uBytes l).uVer (σ.ver + 1)).uTb none).uTbv (σ.tbv + 1))) D H.notSeq H.offL.1 e1 e2 e' keep ⟨rfl, rfl, rfl, rfl, rfl, rfl, rfl⟩
    hMsub hMnd
    ⟨Nat.le_succ _, fun e => absurd e (Nat.succ_ne_self _)⟩ ⟨Nat.le_succ _, fun e => absurd e (Nat.succ_ne_self _)⟩ rfl ⟨Nat.le_refl _, fun _ _ e => e⟩ ⟨rfl, rfl, rfl, rfl, rfl, rfl⟩
    htb ⟨tbM (ρ := ρ) hq, (n7 t hq).symm⟩ D.cv (fun a q => ⟨cvM (ρ := ρ) q, (n6 a q).symm⟩) trivial (fun a q => nomatch q)
    (fun j hj => by induction j using Sl.casesOn <;> first | rfl | exact absurd rfl hj) (fun _ => .bb (Nat.le_refl _) fun _ => rfl)
  exact hP _ _ h' _ hk (H.stepN D' S' (fun m' hm' => (Ns.uniq hm' hn) ▸ hn') (fun q => H.offL.1 (hMsub _ q))) (S'.weaken fun _ q => own_of_L q)
theorem sets_sound (T : Stat K g) (KF : KFacts K) {k : Sl} {o x : AV} {v u : Value} {Kc : St -> Prop} {Q : Unit -> Shared -> Prop} (H : Act g ρ σ env vars fr s.heap) (ro : RV ρ σ s.heap o v) (rx : RV ρ σ s.heap x u) (hw : wpSets k o x σ Kc) (hP : PostU g env vars fr ρ σ s Kc Q) :
    wpAny (model prog w) A (setAttr v k.name u) Q E s := by
  have zq0 := aBld_inv hw; obtain rfl := zq0.1; have hw := zq0.2; clear zq0
  obtain rfl := ro.bld_inv
  cases k with
  | vne =>
    induction x using AV.casesOn with
    | none => obtain rfl := rx.none_inv; exact dZ T KF H hP _ hw rfl (sl_vne _ _) .none
    | int i => obtain ⟨_, rfl⟩ := rx.int_inv; exact dZ T KF H hP _ hw rfl (sl_vne _ _) (.int _ _)
    | _ => exact False.elim hw
  | oend => exact int1 hw rx fun i t hk => dZ T KF H hP _ hk rfl (sl_oend _ _) (.int _ _)
  | minalign => exact int1 hw rx fun i t hk => dZ T KF H hP _ hk rfl (sl_minalign _ _) (.int _ _)
  | head => exact int1 hw rx fun i t hk => dZ T KF H hP _ hk rfl (sl_head _ _) (.int _ _)
  | nested =>
    obtain ⟨b, zq0⟩ := nY hw; obtain rfl := zq0.1; have hk := zq0.2
    obtain rfl := rx.bool_inv
    exact dZ T KF H hP _ hk rfl (sl_nested _ _) (.bool _)
  | fin =>
    obtain ⟨b, zq0⟩ := nY hw; obtain rfl := zq0.1; have hk := zq0.2
    obtain rfl := rx.bool_inv
    exact dZ T KF H hP _ hk rfl (sl_fin _ _) (.bool _)
  | cv =>
    have zq0 := aNone_inv hw; obtain rfl := zq0.1; have hk := zq0.2; clear zq0
    obtain rfl := rx.none_inv
    exact sets_cv T KF H hP hk
  | bytes =>
    obtain ⟨nb, zq0⟩ := aTb_inv hw; obtain rfl := zq0.1; have hw := zq0.2
    have hw : (match σ.tb with | some l => nb = σ.tbv /\ Kc ((((σ.uBytes l).uVer (σ.ver + 1)).uTb none).uTbv (σ.tbv + 1)) | none => False) := hw
    have htb := H.dyn.tb
    induction hl : σ.tb using Option.casesOn with
    | none => rw [hl] at hw; exact hw.elim
    | some l =>
      rw [hl] at htb hw
      induction hq : ρ.tb using Option.casesOn with
      | none => rw [hq] at htb; exact htb.elim
      | some t =>
        obtain rfl := rx.tb_inv hw.1 t hq
        exact sets_bytes T KF H hP hl hq hw.2
  | _ => exact False.elim hw
end
end Fb
set_option genInjectivity false
set_option genCtorIdx false
set_option genSizeOf false
namespace Fb
section
variable {prog : Program} {w : World} {A : Around} {E : Value -> Shared -> Prop} {s : Shared} {g : Heap} {ρ : Ad} {σ : St} {n : Nat} {env : Env} {vars : List Str} {fr : List AV} {K : Frag}
theorem lX {σ' : St} {h h' : Heap} {x : Addr} (D : Dyn g ρ σ h) (hx : x ∈ ρ.M) (hxb : x ≠ ρ.b) (hxd : x ≠ ρ.dx) (keep : ∀ a o, a ≠ x -> h.get? a = some o -> h'.get? a = some o)
    (c1 : σ'.ver = σ.ver /\ σ'.tbv = σ.tbv /\ σ'.tlv = σ.tlv /\ σ'.cvv = σ.cvv) (c2 : ∀ k, σ'.slot k = σ.slot k)
    (ba : x ≠ ρ.ba -> σ'.bytes = σ.bytes) (ba' : x = ρ.ba -> h'.get? ρ.ba = some (bob σ'.bytes))
    (vd : x ≠ ρ.vd -> σ'.vts = σ.vts) (vd' : x = ρ.vd -> Stp NoP ρ σ h ρ σ' h' -> VtsAt ρ σ' h' σ'.vts)
    (cv : ρ.cv ≠ some x -> σ'.cv = σ.cv) (cv' : ρ.cv = some x -> OptL h' σ'.cv ρ.cv)
    (tb : ρ.tb ≠ some x -> σ'.tb = σ.tb) (tb' : ρ.tb = some x -> OptB h' σ'.tb ρ.tb)
    (tl : ρ.tl ≠ some x -> σ'.tl = σ.tl) (tl' : ρ.tl = some x -> OptT h' σ'.tl ρ.tl)
    (pl : x ≠ ρ.pl -> σ'.pile = σ.pile /\ σ'.pmax = σ.pmax) (pl' : x = ρ.pl -> Stp NoP ρ σ h ρ σ' h' -> ∃ pa t, h'.IsList ρ.pl #[.ref pa, .int σ'.pmax t] /\ RV ρ σ' h' (.ints σ'.pile) (.ref pa))
    (bx : x ≠ ρ.bx -> σ'.script = σ.script /\ σ'.bi = σ.bi) (bx' : x = ρ.bx -> Stp NoP ρ σ h ρ σ' h' -> ∃ bl t, h'.IsList ρ.bx #[.ref bl, .int σ'.bi t] /\ RV ρ σ' h' (.ints σ'.script) (.ref bl)) :
    Dyn g ρ σ' h' /\ Stp NoP ρ σ h ρ σ' h' := by
  have v1 := c1.1; have v2 := c1.2.1; have v3 := c1.2.2.1; have v4 := c1.2.2.2; clear c1
  have S : Stp NoP ρ σ h ρ σ' h' := ⟨rfl, rfl, rfl, rfl, rfl, rfl, ⟨Nat.le_of_eq v1.symm, fun _ => rfl⟩, ⟨Nat.le_of_eq v2.symm, fun _ _ e => e⟩, ⟨Nat.le_of_eq v3.symm, fun _ _ e => e⟩, ⟨Nat.le_of_eq v4.symm, fun _ _ e => e⟩,
    fun a o m _ e => ⟨keep a o (fun q => m (q ▸ hx)) e, m⟩⟩
  obtain ⟨sl, zq0⟩ := D.ob; have f1 := zq0.1; have f2 := zq0.2.1; have f3 := zq0.2.2
  refine ⟨⟨⟨sl, keep _ _ hxb.symm f1, f2, fun k hk => ?_⟩, keep _ _ hxd.symm D.dx, ?_, ?_, ?_, ?_, ?_, ?_, ?_, ?_, D.nodup, D.off, D.rsoff, fun a ha => ?_⟩, S⟩
  . rw [c2 k] at hk ⊢
    obtain ⟨v, zq0⟩ := f3 k hk; have a := zq0.1; have b := zq0.2
    exact ⟨v, a, b.step S⟩
  . by_cases e : x = ρ.ba
    . exact ba' e
    . rw [ba e]; exact keep _ _ (Ne.symm e) D.ba
  . by_cases e : x = ρ.vd
    . exact vd' e S
    . obtain ⟨o, es, n, xs, zq0⟩ := D.vd; have a := zq0.1; have b := zq0.2.1; have c := zq0.2.2.1; have d := zq0.2.2.2.1; have e' := zq0.2.2.2.2.1; have f := zq0.2.2.2.2.2.1; have r := zq0.2.2.2.2.2.2
      rw [vd e]
      exact ⟨o, es, n, xs, keep _ _ (Ne.symm e) a, b, c, d, e', f, fun x hx => (r x hx).step S⟩
  . exact D.vd1
  . by_cases e : ρ.cv = some x
    . exact cv' e
    . rw [cv e]; exact D.cv.keep fun b hb o q => keep b o (fun q2 => e (q2 ▸ hb)) q
  . by_cases e : ρ.tb = some x
    . exact tb' e
    . rw [tb e]; exact D.tb.keep fun b hb o q => keep b o (fun q2 => e (q2 ▸ hb)) q
  . by_cases e : ρ.tl = some x
    . exact tl' e
    . rw [tl e]; exact D.tl.keep fun b hb o q => keep b o (fun q2 => e (q2 ▸ hb)) q
  . by_cases e : x = ρ.pl
    . exact pl' e S
    . obtain ⟨pa, t, zq0⟩ := D.pl; have a := zq0.1; have b := zq0.2
      rw [(pl e).1, (pl e).2]
      exact ⟨pa, t, aU a fun o q => keep _ _ (Ne.symm e) q, b.step S⟩
  . by_cases e : x = ρ.bx
    . exact bx' e S
    . obtain ⟨pa, t, zq0⟩ := D.bx; have a := zq0.1; have b := zq0.2
      rw [(bx e).1, (bx e).2]
      exact ⟨pa, t, aU a fun o q => keep _ _ (Ne.symm e) q, b.step S⟩
  . obtain ⟨o, zq0⟩ := D.rsin a ha; have e := zq0.1; have q := zq0.2
    exact ⟨o, (S.keep _ _ (fun m => D.rsoff a m ha) (fun q => q) e).1, q⟩
structure Apart (ρ : Ad) : Prop where
  b : ρ.b ≠ ρ.dx /\ ρ.b ≠ ρ.ba /\ ρ.b ≠ ρ.vd /\ ρ.b ≠ ρ.pl /\ ρ.b ≠ ρ.bx
  dx : ρ.dx ≠ ρ.ba /\ ρ.dx ≠ ρ.vd /\ ρ.dx ≠ ρ.pl /\ ρ.dx ≠ ρ.bx
  ba : ρ.ba ≠ ρ.vd /\ ρ.ba ≠ ρ.pl /\ ρ.ba ≠ ρ.bx
  vd : ρ.vd ≠ ρ.pl /\ ρ.vd ≠ ρ.bx
  pl : ρ.pl ≠ ρ.bx
  cv : ∀ a, ρ.cv = some a -> a ≠ ρ.b /\ a ≠ ρ.dx /\ a ≠ ρ.ba /\ a ≠ ρ.vd /\ a ≠ ρ.pl /\ a ≠ ρ.bx /\ ρ.tb ≠ some a /\ ρ.tl ≠ some a
  tb : ∀ a, ρ.tb = some a -> a ≠ ρ.b /\ a ≠ ρ.dx /\ a ≠ ρ.ba /\ a ≠ ρ.vd /\ a ≠ ρ.pl /\ a ≠ ρ.bx /\ ρ.cv ≠ some a /\ ρ.tl ≠ some a
  tl : ∀ a, ρ.tl = some a -> a ≠ ρ.b /\ a ≠ ρ.dx /\ a ≠ ρ.ba /\ a ≠ ρ.vd /\ a ≠ ρ.pl /\ a ≠ ρ.bx /\ ρ.cv ≠ some a /\ ρ.tb ≠ some a
theorem Dyn.apart {h : Heap} (D : Dyn g ρ σ h) : Apart ρ := by
  have zq0 := List.nodup_cons.mp D.nodup; have a := zq0.1; have n := zq0.2; clear zq0
  have zq0 := List.nodup_cons.mp n; have b := zq0.1; have n := zq0.2; clear zq0
  have zq0 := List.nodup_cons.mp n; have d := zq0.1; have n := zq0.2; clear zq0
  have zq0 := List.nodup_cons.mp n; have f := zq0.1; have n := zq0.2; clear zq0
  have zq0 := List.nodup_cons.mp n; have i := zq0.1; have n := zq0.2; clear zq0
  have zq0 := List.nodup_cons.mp n; have j := zq0.1; have n := zq0.2; clear zq0
  have zq0 := List.nodup_append.mp n; have n2 := zq0.2.1; have n1 := zq0.2.2; clear zq0
  have zq0 := List.nodup_append.mp n2; have n3 := zq0.2.2; clear zq0
  have tl' : ∀ {x : Addr} {a b : Addr} {l : List Addr}, x ∈ l -> x ∈ a :: b :: l := fun h => .tail _ (.tail _ h)
  have six : ∀ z ∈ ρ.cv.toList ++ (ρ.tb.toList ++ ρ.tl.toList), z ≠ ρ.b /\ z ≠ ρ.dx /\ z ≠ ρ.ba /\ z ≠ ρ.vd /\ z ≠ ρ.pl /\ z ≠ ρ.bx := fun z hz =>
    ⟨fun q => a (q ▸ tl' (tl' (.tail _ hz))), fun q => b (q ▸ tl' (tl' hz)), fun q => d (q ▸ tl' (.tail _ hz)), fun q => f (q ▸ tl' hz), fun q => i (q ▸ .tail _ hz), fun q => j (q ▸ hz)⟩
  have ml : ∀ {o : Option Addr} {z : Addr}, o = some z -> z ∈ o.toList := fun h => Option.mem_toList.mpr h
  refine ⟨⟨fun q => a (q ▸ .head _), fun q => a (q ▸ .tail _ (.head _)), fun q => a (q ▸ tl' (.head _)), fun q => a (q ▸ tl' (.tail _ (.head _))), fun q => a (q ▸ tl' (tl' (.head _)))⟩,
    ⟨fun q => b (q ▸ .head _), fun q => b (q ▸ .tail _ (.head _)), fun q => b (q ▸ tl' (.head _)), fun q => b (q ▸ tl' (.tail _ (.head _)))⟩, ⟨fun q => d (q ▸ .head _), fun q => d (q ▸ .tail _ (.head _)), fun q => d (q ▸ tl' (.head _))⟩,
    ⟨fun q => f (q ▸ .head _), fun q => f (q ▸ .tail _ (.head _))⟩, fun q => i (q ▸ .head _), fun z hz => ?_, fun z hz => ?_, fun z hz => ?_⟩
  . have zq0 := six z (List.mem_append_left _ (ml hz)); have q1 := zq0.1; have q2 := zq0.2.1; have q3 := zq0.2.2.1; have q4 := zq0.2.2.2.1; have q5 := zq0.2.2.2.2.1; have q6 := zq0.2.2.2.2.2; clear zq0
    exact ⟨q1, q2, q3, q4, q5, q6, fun q => n1 z (ml hz) z (List.mem_append_left _ (ml q)) rfl, fun q => n1 z (ml hz) z (List.mem_append_right _ (ml q)) rfl⟩
  . have zq0 := six z (List.mem_append_right _ (List.mem_append_left _ (ml hz))); have q1 := zq0.1; have q2 := zq0.2.1; have q3 := zq0.2.2.1; have q4 := zq0.2.2.2.1; have q5 := zq0.2.2.2.2.1; have q6 := zq0.2.2.2.2.2; clear zq0
    exact ⟨q1, q2, q3, q4, q5, q6, fun q => n1 z (ml q) z (List.mem_append_left _ (ml hz)) rfl, fun q => n3 z (ml hz) z (ml q) rfl⟩
  . have zq0 := six z (List.mem_append_right _ (List.mem_append_right _ (ml hz))); have q1 := zq0.1; have q2 := zq0.2.1; have q3 := zq0.2.2.1; have q4 := zq0.2.2.2.1; have q5 := zq0.2.2.2.2.1; have q6 := zq0.2.2.2.2.2; clear zq0
    exact ⟨q1, q2, q3, q4, q5, q6, fun q => n1 z (ml q) z (List.mem_append_right _ (ml hz)) rfl, fun q => n3 z (ml q) z (ml hz) rfl⟩
theorem items_of {prog : Program} {w : World} : ∀ {vs : List Value} {ns : List Int}, IntsAre vs ns -> ItemsAre (intKind prog w) ns vs
  | _, _, .nil => .nil
  | _, _, .cons n t a => .cons (by show Value.isInt n (.int n t) = true; simp [Value.isInt]) (items_of a)
theorem dictH {h : Heap} (D : Dyn g ρ σ h) : ∃ xs, h.DictOfH (tupleKind (intKind prog w)) ρ.vd xs /\ xs.map (·.1) = σ.vts /\ ∀ x ∈ xs, RV ρ σ h (.itup x.1) (.ref x.2.1) := by
  refine bcn fun nG => ?_; obtain ⟨o, es, n, xs, zq0⟩ := D.vd; have a := zq0.1; have b := zq0.2.1; have c := zq0.2.2.1; have d := zq0.2.2.2.1; have e := zq0.2.2.2.2.1; have f := zq0.2.2.2.2.2.1; have r := zq0.2.2.2.2.2.2
  refine nG ?_; refine ⟨xs, ⟨o, es, n, a, b, c, d, fun x hx => ?_, by rw [e]; exact f⟩, e, r⟩
  refine bcn fun nG => ?_; obtain ⟨a3, vs3, n3, zq0⟩ := (r x hx).itup_inv; have e0 := zq0.1; have f3 := zq0.2.1; have e3 := zq0.2.2.1; have i3 := zq0.2.2.2
  refine nG ?_; cases e0
  exact ⟨_, _, _, e3, rfl, rfl, items_of i3⟩
theorem not_at {xs : List (List Int × Addr × Value)} {l : List (List Int)} {k : List Int} (e : xs.map (·.1) = l) (h : k ∉ l) : atKey xs k = none := by
  refine atKey_none_of_get fun j p q => h ?_
  rw [<- e]
  exact List.mem_map.mpr ⟨(k, p), List.mem_of_getElem? q, rfl⟩
theorem ints_set {vs : Array Value} {ns : List Int} (a : IntsAre vs.toList ns) (i : Nat) (x : Int) (t : Tok) : IntsAre (vs.setIfInBounds i (.int x t)).toList (ns.set i x) := by
  rw [Array.toList_setIfInBounds]
  generalize vs.toList = l at a
  induction a generalizing i with
  | nil => simpa using IntsAre.nil
  | cons n t' r ih =>
    induction i using Nat.casesOn with
    | zero => exact .cons x t r
    | succ i => exact .cons n t' (ih i)
noncomputable def PostT (g : Heap) (ρ : Ad) (σ : St) (s : Shared) (Kc : St -> Prop) (Q : Unit -> Shared -> Prop) : Prop := ∀ σ' h' tk, Kc σ' -> Dyn g ρ σ' h' -> Stp NoP ρ σ s.heap ρ σ' h' -> Q () (Fb.sh s h' tk)
theorem seti_pile {t : Tok} {y : Value} {l : List Int} {Kc : St -> Prop} {Q : Unit -> Shared -> Prop} (D : Dyn g ρ σ s.heap) (rx : RV ρ σ s.heap (.ints l) y) (hk : Kc (σ.uPile l)) (hP : PostT g ρ σ s Kc Q) : wpAny (model prog w) A (setItem (.ref ρ.pl) (.int 0 t) y) Q E s := by
  have ap := D.apart
  obtain ⟨pa, t, zq0⟩ := D.pl; have e1 := zq0.1; have r1 := zq0.2
  refine wpAny_setItem_list e1 (by decide) (by decide) (by simp) fun h' e' hs => ?_
  obtain ⟨D', S'⟩ := lX (σ' := (σ.uPile l)) (h' := h') D M_pl ap.b.2.2.2.1.symm ap.dx.2.2.1.symm (fun a o ha e => (hs.2 a ha).trans e) ⟨rfl, rfl, rfl, rfl⟩ (fun k => by induction k using Sl.casesOn <;> rfl)
    (fun _ => rfl) (fun q => absurd q ap.ba.2.1.symm) (fun _ => rfl) (fun q => absurd q ap.vd.1.symm) (fun _ => rfl) (fun q => absurd rfl (ap.cv _ q).2.2.2.2.1) (fun _ => rfl) (fun q => absurd rfl (ap.tb _ q).2.2.2.2.1) (fun _ => rfl) (fun q => absurd rfl (ap.tl _ q).2.2.2.2.1)
    (fun q => absurd rfl q) (fun _ S => by
      obtain ⟨a, vs, n, zq0⟩ := rx.ints_inv; obtain rfl := zq0.1; have f := zq0.2.1; have e2 := zq0.2.2.1; have i2 := zq0.2.2.2
      exact ⟨_, t, e', RV.step (RV.ints f e2 i2) S⟩) (fun _ => ⟨rfl, rfl⟩) (fun q => absurd q ap.pl)
  exact hP _ h' _ hk D' S'
theorem seti_pmax {t t' : Tok} {x : Int} {Kc : St -> Prop} {Q : Unit -> Shared -> Prop} (D : Dyn g ρ σ s.heap) (hk : Kc (σ.uPmax x)) (hP : PostT g ρ σ s Kc Q) : wpAny (model prog w) A (setItem (.ref ρ.pl) (.int 1 t) (.int x t')) Q E s := by
  have ap := D.apart
  refine bcn fun nG => ?_; obtain ⟨pa, t, zq0⟩ := D.pl; have e1 := zq0.1; have r1 := zq0.2
  refine nG ?_; refine wpAny_setItem_list e1 (by decide) (by decide) (by simp) fun h' e' hs => ?_
  refine bcn fun nG => ?_; obtain ⟨D', S'⟩ := lX (σ' := (σ.uPmax x)) (h' := h') D M_pl ap.b.2.2.2.1.symm ap.dx.2.2.1.symm (fun a o ha e => (hs.2 a ha).trans e) ⟨rfl, rfl, rfl, rfl⟩ (fun k => by induction k using Sl.casesOn <;> rfl)
    (fun _ => rfl) (fun q => absurd q ap.ba.2.1.symm) (fun _ => rfl) (fun q => absurd q ap.vd.1.symm) (fun _ => rfl) (fun q => absurd rfl (ap.cv _ q).2.2.2.2.1) (fun _ => rfl) (fun q => absurd rfl (ap.tb _ q).2.2.2.2.1) (fun _ => rfl) (fun q => absurd rfl (ap.tl _ q).2.2.2.2.1)
    (fun q => absurd rfl q) (fun _ S => ⟨pa, _, e', r1.step S⟩) (fun _ => ⟨rfl, rfl⟩) (fun q => absurd q ap.pl)
  refine nG ?_; exact hP _ h' _ hk D' S'
theorem seti_box {t t' : Tok} {x : Int} {Kc : St -> Prop} {Q : Unit -> Shared -> Prop} (D : Dyn g ρ σ s.heap) (hk : Kc (σ.uBi x)) (hP : PostT g ρ σ s Kc Q) : wpAny (model prog w) A (setItem (.ref ρ.bx) (.int 1 t) (.int x t')) Q E s := by
  have ap := D.apart
  refine bcn fun nG => ?_; obtain ⟨pa, t, zq0⟩ := D.bx; have e1 := zq0.1; have r1 := zq0.2
  refine nG ?_; refine wpAny_setItem_list e1 (by decide) (by decide) (by simp) fun h' e' hs => ?_
  refine bcn fun nG => ?_; obtain ⟨D', S'⟩ := lX (σ' := (σ.uBi x)) (h' := h') D M_bx ap.b.2.2.2.2.symm ap.dx.2.2.2.symm (fun a o ha e => (hs.2 a ha).trans e) ⟨rfl, rfl, rfl, rfl⟩ (fun k => by induction k using Sl.casesOn <;> rfl)
    (fun _ => rfl) (fun q => absurd q ap.ba.2.2.symm) (fun _ => rfl) (fun q => absurd q ap.vd.2.symm) (fun _ => rfl) (fun q => absurd rfl (ap.cv _ q).2.2.2.2.2.1) (fun _ => rfl) (fun q => absurd rfl (ap.tb _ q).2.2.2.2.2.1) (fun _ => rfl) (fun q => absurd rfl (ap.tl _ q).2.2.2.2.2.1)
    (fun _ => ⟨rfl, rfl⟩) (fun q => absurd q ap.pl.symm) (fun q => absurd rfl q) (fun _ S => ⟨pa, _, e', r1.step S⟩)
  refine nG ?_; exact hP _ h' _ hk D' S'
theorem seti_cv {i x : Int} {t t' : Tok} {l : List Int} {c : Addr} {vs : Array Value} {Kc : St -> Prop} {Q : Unit -> Shared -> Prop} (D : Dyn g ρ σ s.heap) (hl : σ.cv = some l) (hc : ρ.cv = some c) (e1 : s.heap.IsList c vs) (i1 : IntsAre vs.toList l) (hi : 0 <= i /\ i < l.length /\ l.length <= 1000)
    (hk : Kc (σ.uCv (some (l.set i.toNat x)))) (hP : PostT g ρ σ s Kc Q) : wpAny (model prog w) A (setItem (.ref c) (.int i t) (.int x t')) Q E s := by
  have apc := D.apart.cv c hc
  have hl1 : vs.size = l.length := bI i1
  refine wpAny_setItem_list e1 (by lia) (by lia) (by (have q1 := hi.2.1; clear hi; (exact Int.le_trans (by assumption) (by lia)))) fun h' e' hs => ?_
  obtain ⟨D', S'⟩ := lX (σ' := (σ.uCv (some (l.set i.toNat x)))) (h' := h') D (cvM (ρ := ρ) hc) apc.1 apc.2.1 (fun a o ha e => (hs.2 a ha).trans e) ⟨rfl, rfl, rfl, rfl⟩ (fun k => by induction k using Sl.casesOn <;> first | rfl | (simp only [St.slot, hl]))
    (fun _ => rfl) (fun q => absurd q apc.2.2.1) (fun _ => rfl) (fun q => absurd q apc.2.2.2.1) (fun q => absurd hc q) (fun _ => by rw [hc]; exact ⟨_, e', ints_set i1 _ _ _⟩) (fun _ => rfl) (fun q => absurd q apc.2.2.2.2.2.2.1) (fun _ => rfl) (fun q => absurd q apc.2.2.2.2.2.2.2)
    (fun _ => ⟨rfl, rfl⟩) (fun q => absurd q apc.2.2.2.2.1) (fun _ => ⟨rfl, rfl⟩) (fun q => absurd q apc.2.2.2.2.2.1)
  exact hP _ h' _ hk D' S'
theorem seti_vts (hB : Bud n A) {k : List Int} {u : Value} {x : Int} {t' : Tok} {Kc : St -> Prop} {Q : Unit -> Shared -> Prop} (D : Dyn g ρ σ s.heap) (ri : RV ρ σ s.heap (.itup k) u) (hw : σ.vts.length <= 1000 /\ k ∉ σ.vts)
    (hk : Kc (σ.uVts (σ.vts ++ [k]))) (hP : PostT g ρ σ s Kc Q) : wpAny (model prog w) A (setItem (.ref ρ.vd) u (.int x t')) Q E s := by
  have ap := D.apart
  obtain ⟨a3, vs3, n3, rfl, f3, e3, i3⟩ := ri.itup_inv
  have hkey : IsTupleKey (intKind prog w) s.heap k _ := ⟨_, _, _, e3, rfl, rfl, items_of i3⟩
  refine bcn fun nG => ?_; obtain ⟨xs, hd, hm, hr⟩ := dictH (prog := prog) (w := w) D
  have hlen : xs.length = σ.vts.length := by rw [<- hm, List.length_map]
  refine nG ?_; refine wpAny_setItem_heap (knd := tupleKind (intKind prog w)) (by have := hB.un; have := cLine_is; show A.units + 1 < cLine; lia) hkey hd (fun h' e' hs => ?_) (by rw [hlen, sizeLine_eq]; (have q1 := hw.1; clear hw; (exact Nat.le_trans (by assumption) (Nat.le_add_left _ _))))
  refine bcn fun nG => ?_; obtain ⟨D', S'⟩ := lX (σ' := (σ.uVts (σ.vts ++ [k]))) (h' := h') D M_vd ap.b.2.2.1.symm ap.dx.2.1.symm (fun a o ha e => (hs.2 a ha).trans e) ⟨rfl, rfl, rfl, rfl⟩ (fun k => by induction k using Sl.casesOn <;> rfl)
    (fun _ => rfl) (fun q => absurd q ap.ba.1.symm) (fun q => absurd rfl q) (fun _ S => by
      rw [storedH_new (not_at hm hw.2)] at e'
      obtain ⟨o, es, n, a, b, c, d, e, f⟩ := e'
      refine ⟨o, es, n, _, a, b, c, d, by rw [List.map_append, hm]; rfl, ?_, fun x hx => ?_⟩
      . rw [List.map_append, hm] at f; exact f
      . rcases List.mem_append.mp hx with hx | hx
        . exact (hr x hx).step S
        . cases hx with
          | head => exact RV.step (RV.itup f3 e3 i3) S
          | tail _ q => exact nomatch q) (fun _ => rfl) (fun q => absurd rfl (ap.cv _ q).2.2.2.1) (fun _ => rfl) (fun q => absurd rfl (ap.tb _ q).2.2.2.1) (fun _ => rfl) (fun q => absurd rfl (ap.tl _ q).2.2.2.1)
    (fun _ => ⟨rfl, rfl⟩) (fun q => absurd q ap.vd.1) (fun _ => ⟨rfl, rfl⟩) (fun q => absurd q ap.vd.2)
  refine nG ?_; exact hP _ h' _ hk D' S'
theorem seti_sound (hB : Bud n A) {o i x : AV} {v u y : Value} {Kc : St -> Prop} {Q : Unit -> Shared -> Prop} (D : Dyn g ρ σ s.heap) (ro : RV ρ σ s.heap o v) (ri : RV ρ σ s.heap i u) (rx : RV ρ σ s.heap x y) (hw : wpSeti o i x σ Kc)
    (hP : PostT g ρ σ s Kc Q) : wpAny (model prog w) A (setItem v u y) Q E s := by
  induction o using AV.casesOn with
  | pile =>
    obtain rfl := ro.pile_inv
    refine int1 hw ri fun i t hw => ?_
    induction x using AV.casesOn with
    | «ints» l => obtain ⟨rfl, hk⟩ := hw; exact seti_pile D rx hk hP
    | int x => obtain ⟨rfl, hk⟩ := hw; obtain ⟨_, rfl⟩ := rx.int_inv; exact seti_pmax D hk hP
    | _ => exact False.elim hw
  | box =>
    obtain rfl := ro.box_inv
    exact jC hw ri rx fun i x t t' hw => by
      obtain ⟨rfl, hk⟩ := hw
      exact seti_box D hk hP
  | cv nn =>
    refine jC hw ri rx fun i x t t' hw => ?_
    have hw : (match σ.cv with | some l => (nn = σ.cvv /\ 0 <= i /\ i < l.length /\ l.length <= 1000) /\ Kc (σ.uCv (some (l.set i.toNat x))) | none => False) := hw
    have hcv := D.cv
    induction hl : σ.cv using Option.casesOn with
    | none => rw [hl] at hw; exact hw.elim
    | some l =>
      rw [hl] at hcv hw
      induction hc : ρ.cv using Option.casesOn with
      | none => rw [hc] at hcv; exact hcv.elim
      | some c =>
        rw [hc] at hcv
        obtain ⟨vs, e1, i1⟩ := hcv
        obtain rfl := ro.cv_inv hw.1.1 c hc
        exact seti_cv D hl hc e1 i1 hw.1.2 hw.2 hP
  | vts =>
    obtain ⟨k, rfl, hw⟩ := aItup_inv hw
    obtain rfl := ro.vts_inv
    exact int1 hw rx fun x t hw => seti_vts hB D ri hw.1 hw.2 hP
  | _ => exact False.elim hw
end
end Fb
namespace Fb
noncomputable def aS : Expr -> Bool
  | .Starred _ _ => false
  | _ => true
noncomputable def dW (e : Expr) : Bool := by
  induction e using Expr.casesOn with
  | Name _ _ => exact true
  | Attribute _ _ _ => exact true
  | _ => exact false
noncomputable def visK : Option NameKind -> Bool
  | some .local => true
  | some .cell => true
  | some .free => true
  | _ => false
noncomputable def cK (x : Str) : Bool := !(x == ("__debug__" : Str)) && !(x == ("__classdict__" : Str))
noncomputable def bopOf : BOp -> Operator
  | .add => .Add | .sub => .Sub | .mul => .Mult | .fdiv => .FloorDiv | .mod => .Mod | .pow => .Pow | .band => .BitAnd
noncomputable def uopOf : UOp -> UnaryOp
  | .not => .Not | .inv => .Invert | .neg => .USub
noncomputable def copOf : COp -> CmpOp
  | .lt => .Lt | .le => .LtE | .gt => .Gt | .ge => .GtE | .eq => .Eq | .ne => .NotEq | .is => .Is | .isnot => .IsNot
noncomputable def biName : Bi -> Nat
  | .len => 0 | .max => 1 | .min => 2 | .int => 3 | .list => 4 | .bytes => 5 | .tuple => 6 | .isinst => 7 | .unpack => 8
noncomputable def isBop (o : Operator) (b : BOp) : Bool := decide (o = bopOf b)
noncomputable def isUop (o : UnaryOp) (b : UOp) : Bool := decide (o = uopOf b)
noncomputable def isCop (o : CmpOp) (b : COp) : Bool := decide (o = copOf b)
theorem nW {o : Operator} {b : BOp} (h : isBop o b = true) : o = bopOf b := of_decide_eq_true h
theorem isUop_eq {o : UnaryOp} {b : UOp} (h : isUop o b = true) : o = uopOf b := of_decide_eq_true h
theorem isCop_eq {o : CmpOp} {b : COp} (h : isCop o b = true) : o = copOf b := of_decide_eq_true h
noncomputable def aZ (f : Expr -> IE -> Bool) : List Expr -> List IE -> Bool
  | [], is => is.isEmpty
  | e :: es, is => match is with
    | [] => false
    | i :: is => aS e && f e i && aZ f es is
noncomputable def dO (i : Nat) (x : Str) (k : Option NameKind) : Bool := (match bN[i]? with | some p => p.1 == x | none => false) && k == some .globalImplicit && cK x
noncomputable def isRefG (i : Nat) : Bool := callable i && match bN[i]? with | some (_, .cst (.ref _)) => true | _ => false
noncomputable def methAt (i : Nat) (x : Str) : Bool := match oB[i]? with | some p => p.1 == x | none => false
noncomputable def eP (sc sc' : Scope) : List (Str × NameKind) := sc'.names.map fun x => if x.2 == .free && sc.kind == .function && sc.names.lookup x.1 == some .cell then (x.1, .cell) else x
noncomputable def onNil {α : Type} (l : List α) (b : Bool) : Bool := by
  induction l using List.casesOn with
  | nil => exact b
  | cons x r => exact false
noncomputable def mB {α : Type} (l : List α) (f : α -> List α -> Bool) : Bool := by
  induction l using List.casesOn with
  | nil => exact false
  | cons x r => exact f x r
noncomputable def jS (e : Expr) (f : Const -> Bool) : Bool := by
  cases e with
  | Constant c _ _ => exact f c
  | _ => exact false
noncomputable def cB (e : Expr) (f : Str -> Bool) : Bool := by
  induction e using Expr.casesOn with
  | Name x _ => exact f x
  | _ => exact false
noncomputable def dX (e : Expr) (f : Expr -> Str -> Pos -> Bool) : Bool := by
  cases e with
  | Attribute v a p => exact f v a p
  | _ => exact false
noncomputable def onBin (e : Expr) (f : Expr -> Operator -> Expr -> Bool) : Bool := by
  cases e with
  | BinOp l o r _ => exact f l o r
  | _ => exact false
noncomputable def onUn (e : Expr) (f : UnaryOp -> Expr -> Bool) : Bool := by
  cases e with
  | UnaryOp o x _ => exact f o x
  | _ => exact false
noncomputable def onCmp (e : Expr) (f : Expr -> List CmpOp -> List Expr -> Bool) : Bool := by
  cases e with
  | Compare l o r _ => exact f l o r
  | _ => exact false
noncomputable def onBoolOp (e : Expr) (f : BoolOp -> List Expr -> Bool) : Bool := by
  cases e with
  | BoolOp o xs _ => exact f o xs
  | _ => exact false
noncomputable def onIfExp (e : Expr) (f : Expr -> Expr -> Expr -> Bool) : Bool := by
  cases e with
  | IfExp a b c _ => exact f a b c
  | _ => exact false
noncomputable def mS (e : Expr) (f : Expr -> Expr -> Bool) : Bool := by
  cases e with
  | Subscript a b _ => exact f a b
  | _ => exact false
noncomputable def lZ (e : Expr) (f : Option Expr -> Option Expr -> Option Expr -> Bool) : Bool := by
  cases e with
  | Slice a b c _ => exact f a b c
  | _ => exact false
noncomputable def nT (e : Expr) (f : List Expr -> Bool) : Bool := by
  cases e with
  | List xs _ => exact f xs
  | _ => exact false
noncomputable def onTuple (e : Expr) (f : List Expr -> Bool) : Bool := by
  cases e with
  | Tuple xs _ _ => exact f xs
  | _ => exact false
noncomputable def dA (e : Expr) (f : Expr -> List Expr -> Pos -> Bool) : Bool := by
  cases e with
  | Call g xs kk p => exact onNil kk (f g xs p)
  | _ => exact false
noncomputable def onComp (e : Expr) (f : Expr -> List Comprehension -> Scope -> Bool) : Bool := by
  cases e with
  | ListComp x gs sc _ => exact f x gs sc
  | _ => exact false
noncomputable def onGen (g : Comprehension) (f : Expr -> Expr -> Bool) : Bool := match g with
  | ⟨a, b, [], d⟩ => d == 0 && f a b
  | _ => false
noncomputable def on1 {α : Type} (l : List α) (f : α -> Bool) : Bool := mB l fun a r => onNil r (f a)
noncomputable def on2 {α : Type} (l : List α) (f : α -> α -> Bool) : Bool := mB l fun a r => on1 r (f a)
noncomputable def on3 {α : Type} (l : List α) (f : α -> α -> α -> Bool) : Bool := mB l fun a r => on2 r (f a)
@[elab_as_elim] theorem onNil_el {α : Type} {l : List α} {b : Bool} {P : List α -> Prop} (h : onNil l b = true) (cont : b = true -> P []) : P l := by
  cases l with
  | nil => exact cont h
  | cons x r => exact ff h
@[elab_as_elim] theorem eN {α : Type} {l : List α} {f} {P : List α -> Prop} (h : mB l f = true) (cont : ∀ a r, f a r = true -> P (a :: r)) : P l := by
  cases l with
  | nil => exact ff h
  | cons x r => exact cont x r h
@[elab_as_elim] theorem bW {α : Type} {l : List α} {f} {P : List α -> Prop} (h : on1 l f = true) (cont : ∀ a, f a = true -> P ([a])) : P l :=
  eN h fun a r h => onNil_el (P := fun r => P (a :: r)) h fun h => cont a h
@[elab_as_elim] theorem fE {α : Type} {l : List α} {f} {P : List α -> Prop} (h : on2 l f = true) (cont : ∀ a b, f a b = true -> P ([a, b])) : P l :=
  eN h fun a r h => bW (P := fun r => P (a :: r)) h fun b h => cont a b h
@[elab_as_elim] theorem on3_el {α : Type} {l : List α} {f} {P : List α -> Prop} (h : on3 l f = true) (cont : ∀ a b c, f a b c = true -> P ([a, b, c])) : P l :=
  eN h fun a r h => fE (P := fun r => P (a :: r)) h fun b c h => cont a b c h
noncomputable def fQ {α : Type} (l : Option α) (f : α -> Bool) : Bool := match l with
  | some a => f a
  | _ => false
noncomputable def fZ {α : Type} (l : Option α) : Bool := match l with
  | none => true
  | _ => false
theorem an {a b : Bool} (h : (a && b) = true) : a = true /\ b = true := Bool.and_eq_true_iff.mp h
noncomputable def isC (c : Const) (i : Int) : Bool := by
  induction c using Const.casesOn with
  | int j => exact j == i
  | _ => exact false
theorem isC_eq {c : Const} {i : Int} (h : isC c i = true) : c = .int i := by cases c <;> first | exact ff h | exact congrArg _ (eq_of_beq h)
noncomputable def isB (c : Const) (b : Bool) : Bool := by
  induction c using Const.casesOn with
  | bool d => exact d == b
  | _ => exact false
theorem isB_eq {c : Const} {b : Bool} (h : isB c b = true) : c = .bool b := by cases c <;> first | exact ff h | exact congrArg _ (eq_of_beq h)
noncomputable def isBy (c : Const) (b : List UInt8) : Bool := by
  induction c using Const.casesOn with
  | bytes d => exact d == b
  | _ => exact false
theorem isBy_eq {c : Const} {b : List UInt8} (h : isBy c b = true) : c = .bytes b := by cases c <;> first | exact ff h | exact congrArg _ (eq_of_beq h)
noncomputable def isSt (c : Const) (x : Str) : Bool := by
  induction c using Const.casesOn with
  | str d => exact d == x
  | _ => exact false
theorem isSt_eq {c : Const} {x : Str} (h : isSt c x = true) : c = .str x := by cases c <;> first | exact ff h | exact congrArg _ (eq_of_beq h)
noncomputable def isNo (c : Const) : Bool := match c with
  | .none => true
  | _ => false
theorem isNo_eq {c : Const} (h : isNo c = true) : c = .none := by cases c <;> first | exact ff h | rfl
noncomputable def litOk (c : Const) (v : AV) : Bool := match v with
  | .none => isNo c
  | .bool b => isB c b
  | .int i => isC c i
  | .bytes b => isBy c b
  | .str x => isSt c x
  | _ => false
@[elab_as_elim] theorem eI {e : Expr} {f} {P : Expr -> Prop} (h : jS e f = true) (cont : ∀ c k p, f c = true -> P (.Constant c k p)) : P e := by
  cases e with
  | Constant c k p => exact cont c k p h
  | _ => exact ff h
@[elab_as_elim] theorem aV {e : Expr} {f} {P : Expr -> Prop} (h : cB e f = true) (cont : ∀ x p, f x = true -> P (.Name x p)) : P e := by
  cases e with
  | Name x p => exact cont x p h
  | _ => exact ff h
@[elab_as_elim] theorem bK {e : Expr} {f} {P : Expr -> Prop} (h : dX e f = true) (cont : ∀ v a p, f v a p = true -> P (.Attribute v a p)) : P e := by
  cases e with
  | Attribute v a p => exact cont v a p h
  | _ => exact ff h
@[elab_as_elim] theorem onBin_el {e : Expr} {f} {P : Expr -> Prop} (h : onBin e f = true) (cont : ∀ l o r p, f l o r = true -> P (.BinOp l o r p)) : P e := by
  cases e with
  | BinOp l o r p => exact cont l o r p h
  | _ => exact ff h
@[elab_as_elim] theorem onUn_el {e : Expr} {f} {P : Expr -> Prop} (h : onUn e f = true) (cont : ∀ o x p, f o x = true -> P (.UnaryOp o x p)) : P e := by
  cases e with
  | UnaryOp o x p => exact cont o x p h
  | _ => exact ff h
@[elab_as_elim] theorem nB {e : Expr} {f} {P : Expr -> Prop} (h : onCmp e f = true) (cont : ∀ l o r p, f l o r = true -> P (.Compare l o r p)) : P e := by
  cases e with
  | Compare l o r p => exact cont l o r p h
  | _ => exact ff h
@[elab_as_elim] theorem kK {e : Expr} {f} {P : Expr -> Prop} (h : onBoolOp e f = true) (cont : ∀ o xs p, f o xs = true -> P (.BoolOp o xs p)) : P e := by
  cases e with
  | BoolOp o xs p => exact cont o xs p h
  | _ => exact ff h
@[elab_as_elim] theorem onIfExp_el {e : Expr} {f} {P : Expr -> Prop} (h : onIfExp e f = true) (cont : ∀ a b c p, f a b c = true -> P (.IfExp a b c p)) : P e := by
  cases e with
  | IfExp a b c p => exact cont a b c p h
  | _ => exact ff h
@[elab_as_elim] theorem dN {e : Expr} {f} {P : Expr -> Prop} (h : mS e f = true) (cont : ∀ a b p, f a b = true -> P (.Subscript a b p)) : P e := by
  cases e with
  | Subscript a b p => exact cont a b p h
  | _ => exact ff h
@[elab_as_elim] theorem fP {e : Expr} {f} {P : Expr -> Prop} (h : lZ e f = true) (cont : ∀ a b c p, f a b c = true -> P (.Slice a b c p)) : P e := by
  cases e with
  | Slice a b c p => exact cont a b c p h
  | _ => exact ff h
@[elab_as_elim] theorem fO {e : Expr} {f} {P : Expr -> Prop} (h : nT e f = true) (cont : ∀ xs p, f xs = true -> P (.List xs p)) : P e := by
  cases e with
  | List xs p => exact cont xs p h
  | _ => exact ff h
@[elab_as_elim] theorem onTuple_el {e : Expr} {f} {P : Expr -> Prop} (h : onTuple e f = true) (cont : ∀ xs k p, f xs = true -> P (.Tuple xs k p)) : P e := by
  cases e with
  | Tuple xs k p => exact cont xs k p h
  | _ => exact ff h
@[elab_as_elim] theorem bA {e : Expr} {f} {P : Expr -> Prop} (h : dA e f = true) (cont : ∀ g xs p, f g xs p = true -> P (.Call g xs [] p)) : P e := by
  cases e with
  | Call g xs kk p => exact onNil_el (P := fun kk => P (.Call g xs kk p)) h fun h => cont g xs p h
  | _ => exact ff h
@[elab_as_elim] theorem onComp_el {e : Expr} {f} {P : Expr -> Prop} (h : onComp e f = true) (cont : ∀ x gs sc p, f x gs sc = true -> P (.ListComp x gs sc p)) : P e := by
  cases e with
  | ListComp x gs sc p => exact cont x gs sc p h
  | _ => exact ff h
theorem onGen_inv {g : Comprehension} {f} (h : onGen g f = true) : ∃ a b, g = ⟨a, b, [], 0⟩ /\ f a b = true := by
  obtain ⟨a, b, c, d⟩ := g
  induction c using List.casesOn with
  | nil => exact ⟨a, b, by rw [eq_of_beq (an h).1], (an h).2⟩
  | cons _ _ => exact ff h
@[elab_as_elim] theorem onGen_el {g : Comprehension} {f} {P : Comprehension -> Prop} (h : onGen g f = true) (cont : ∀ a b, f a b = true -> P (⟨a, b, [], 0⟩)) : P g := by
  obtain ⟨a, b, rfl, h⟩ := onGen_inv h
  exact cont a b h
theorem onSome_inv {α : Type} {l : Option α} {f} (h : fQ l f = true) : ∃ a, l = some a /\ f a = true := by
  induction l using Option.casesOn with
  | none => exact ff h
  | some a => exact ⟨a, rfl, h⟩
@[elab_as_elim] theorem cN {α : Type} {l : Option α} {f} {P : Option α -> Prop} (h : fQ l f = true) (cont : ∀ a, f a = true -> P (some a)) : P l := by
  obtain ⟨a, rfl, h⟩ := onSome_inv h
  exact cont a h
theorem bS {α : Type} {l : Option α} (h : fZ l = true) : l = none := by
  induction l using Option.casesOn with
  | none => rfl
  | some a => exact ff h
noncomputable def isAnd : BoolOp -> Bool
  | .And => true
  | .Or => false
noncomputable def isOr : BoolOp -> Bool
  | .And => false
  | .Or => true
theorem isAnd_eq {o : BoolOp} (h : isAnd o = true) : o = .And := by cases o <;> first | rfl | exact ff h
theorem isOr_eq {o : BoolOp} (h : isOr o = true) : o = .Or := by cases o <;> first | rfl | exact ff h
noncomputable def onCallK (e : Expr) (f : Expr -> List Expr -> List Keyword -> Pos -> Bool) : Bool := by
  cases e with
  | Call g xs ks p => exact f g xs ks p
  | _ => exact false
@[elab_as_elim] theorem onCallK_el {e : Expr} {f} {P : Expr -> Prop} (h : onCallK e f = true) (cont : ∀ g xs ks p, f g xs ks p = true -> P (.Call g xs ks p)) : P e := by
  cases e with
  | Call g xs ks p => exact cont g xs ks p h
  | _ => exact ff h
noncomputable def onStar (e : Expr) (f : Expr -> Bool) : Bool := by
  cases e with
  | Starred x _ => exact f x
  | _ => exact false
@[elab_as_elim] theorem onStar_el {e : Expr} {f} {P : Expr -> Prop} (h : onStar e f = true) (cont : ∀ x p, f x = true -> P (.Starred x p)) : P e := by
  cases e with
  | Starred x p => exact cont x p h
  | _ => exact ff h
noncomputable def onDict0 (e : Expr) : Bool := match e with
  | .Dict [] [] _ => true
  | _ => false
set_option tactic.hygienic true in
theorem onDict0_inv {e : Expr} (h : onDict0 e = true) : ∃ p, e = .Dict [] [] p := by
  cases e <;> first | exact ff h | skip
  rename_i a b p
  induction a using List.casesOn with
  | cons _ _ => exact ff h
  | nil => cases b with
    | cons _ _ => exact ff h
    | nil => exact ⟨_, rfl⟩
noncomputable def isNm (x : Str) (e : Expr) : Bool := cB e fun y => y == x
theorem bP {x : Str} {e : Expr} (h : isNm x e = true) : ∃ p, e = .Name x p := by
  refine aV h fun y p h => ?_
  exact ⟨p, by rw [eq_of_beq h]⟩
noncomputable def isInt (i : Int) (e : Expr) : Bool := jS e fun c => isC c i
theorem isInt_inv {i : Int} {e : Expr} (h : isInt i e = true) : ∃ k p, e = .Constant (.int i) k p := by
  refine eI h fun c k p h => ?_
  exact ⟨k, p, by rw [isC_eq h]⟩
noncomputable def isIx (x : Str) (i : Int) (e : Expr) : Bool := mS e fun a b => isNm x a && isInt i b
theorem isIx_inv {x : Str} {i : Int} {e : Expr} (h : isIx x i e = true) : ∃ p1 k p2 p3, e = .Subscript (.Name x p1) (.Constant (.int i) k p2) p3 := by
  refine dN h fun a b p h => ?_
  obtain ⟨p1, rfl⟩ := bP (an h).1
  obtain ⟨k, p2, rfl⟩ := isInt_inv (an h).2
  exact ⟨_, _, _, _, rfl⟩
noncomputable def chkE : Nat -> List Str -> Scope -> Expr -> IE -> Bool
  | 0, _, _, _, _ => false
  | n + 1, vs, sc, e, ir => match ir with
    | .bad => true
    | .lit v => jS e fun c => litOk c v
    | .loc i => cB e fun x => (match vs[i]? with | some y => y == x | none => false) && visK (sc.names.lookup x) && cK x
    | .glob i => cB e fun x => dO i x (sc.names.lookup x)
    | .slot k o => dX e fun v a _ => a == k.name && dW v && chkE n vs sc v o
    | .cattr x o => dX e fun v a _ => a == x.name && dW v && chkE n vs sc v o
    | .bin op a b => onBin e fun l o r => isBop o op && chkE n vs sc l a && chkE n vs sc r b
    | .un op a => onUn e fun o x => isUop o op && chkE n vs sc x a
    | .cmp op a b => onCmp e fun l os rs => on1 os fun o => on1 rs fun r => isCop o op && chkE n vs sc l a && chkE n vs sc r b
    | .cmp2 oG oH a b c => onCmp e fun l os rs => on2 os fun pG pH => on2 rs fun rG rH => isCop pG oG && isCop pH oH && chkE n vs sc l a && chkE n vs sc rG b && chkE n vs sc rH c
    | .and a b => onBoolOp e fun o xs => isAnd o && on2 xs fun x y => chkE n vs sc x a && chkE n vs sc y b
    | .and3 a b c => onBoolOp e fun o xs => isAnd o && on3 xs fun x y z => chkE n vs sc x a && chkE n vs sc y b && chkE n vs sc z c
    | .or a b => onBoolOp e fun o xs => isOr o && on2 xs fun x y => chkE n vs sc x a && chkE n vs sc y b
    | .ite t a b => onIfExp e fun t' a' b' => chkE n vs sc t' t && chkE n vs sc a' a && chkE n vs sc b' b
    | .idx o i => mS e fun v s => gG s && chkE n vs sc v o && chkE n vs sc s i
    | .slTo o hi => mS e fun v s => lZ s fun a b c => fZ a && fZ c && fQ b fun u => chkE n vs sc v o && chkE n vs sc u hi
    | .slFrom o lo => mS e fun v s => lZ s fun a b c => fZ b && fZ c && fQ a fun l => chkE n vs sc v o && chkE n vs sc l lo
    | .rev o => mS e fun v s => lZ s fun a b c => fZ a && fZ b && fQ c fun d => onUn d fun u y => isUop u .neg && jS y (fun z => isC z 1) && chkE n vs sc v o
    | .list es => nT e fun xs => aZ (chkE n vs sc) xs es
    | .tuple es => onTuple e fun xs => aZ (chkE n vs sc) xs es
    | .call f es => dA e fun g xs _ => cB g fun x => isRefG f && dO f x (sc.names.lookup x) && aZ (chkE n vs sc) xs es
    | .meth m o es => dA e fun g xs p => dX g fun v a ap => methAt m a && dW v && ap.endLine == p.line && decide (xs.length < 30) && chkE n vs sc v o && aZ (chkE n vs sc) xs es
    | .bif b es => dA e fun g xs _ => cB g fun x => dO (biName b) x (sc.names.lookup x) && aZ (chkE n vs sc) xs es
    | .pyty o a => dA e fun g xs p => dX g fun v y ap => on1 xs fun x => y == CA.name .py_type && dW v && ap.endLine == p.line && aS x && chkE n vs sc v o && chkE n vs sc x a
    | .pack o a b c => dA e fun g xs p => dX g fun v y ap => on3 xs fun xG xH xJ => y == Str.ofString "pack_into" && dW v && ap.endLine == p.line && aS xG && aS xH && aS xJ && chkE n vs sc v o && chkE n vs sc xG a && chkE n vs sc xH b && chkE n vs sc xJ c
    | .append o a => dA e fun g xs p => dX g fun v y ap => on1 xs fun x => y == Str.ofString "append" && dW v && ap.endLine == p.line && aS x && chkE n vs sc v o && chkE n vs sc x a
    | .dget o a => dA e fun g xs p => dX g fun v y ap => on1 xs fun x => y == Str.ofString "get" && dW v && ap.endLine == p.line && aS x && chkE n vs sc v o && chkE n vs sc x a
    | .comp i m elt => onComp e fun x gs sc' => on1 gs fun gn => onGen gn fun t it => cB t fun k => dA it fun rf ys _ => cB rf fun r => on1 ys fun y =>
      (match vs[i]? with | some z => z == k | none => false) && dO 9 r (sc.names.lookup r) && aS y && chkE n vs sc y m &&
      sc'.names.lookup k == some .local && (sc'.names.all fun z => (z.2 == .local && (z.1 == k || z.1 == (".0" : Str)) && sc'.names.lookup z.1 == some .local) || (z.2 == .free && sc.names.lookup z.1 == some .cell) || z.2 == .globalImplicit) && sc'.kind == .function && !(vs.contains (".0" : Str)) &&
      chkE n vs { sc' with names := eP sc sc' } x elt
section
variable {prog : Program} {w : World} {g : Heap} {K : Frag}
noncomputable def FunOk (prog : Program) (w : World) (g : Heap) (lev : Nat) (f : Addr) (S : List AV -> St -> (AV -> St -> Prop) -> Prop) : Prop :=
  ∀ (A : Around) (s : Shared) (ρ : Ad) (σ : St) (avs : List AV) (vs : List Value) (Kc : AV -> St -> Prop) (Q E : Value -> Shared -> Prop), Bud lev A -> g.StaysIn s.heap -> Dyn g ρ σ s.heap -> RVs ρ σ s.heap avs vs -> S avs σ Kc -> PostE g ρ σ s Kc Q ->
    wpN (model prog w) A (call (.ref f) vs) Q E s
noncomputable def GV (prog : Program) (w : World) (g : Heap) (lev : Nat) (Γ : Fns) : Prop := ∀ f, FunOk prog w g lev f (Γ f)
noncomputable def SndE (prog : Program) (w : World) (g : Heap) (lev : Nat) (vars : List Str) (W : Wp) : Prop :=
  ∀ (m : Nat) (env : Env) (e : Expr) (ir : IE), chkE m vars env.scope e ir = true ->
    ∀ (A : Around) (s : Shared) (ρ : Ad) (σ : St) (fr : List AV) (Kc : AV -> St -> Prop) (Q E : Value -> Shared -> Prop), Bud lev A -> Act g ρ σ env vars fr s.heap -> W.e ir fr σ Kc -> PostE g ρ σ s Kc Q ->
      wpN (model prog w) A (eval e env) Q E s
noncomputable def SndT (prog : Program) (w : World) (g : Heap) (lev : Nat) (vars : List Str) (W : Wp) : Prop :=
  ∀ (m : Nat) (env : Env) (e : Expr) (ir : IE), chkE m vars env.scope e ir = true ->
    ∀ (A : Around) (s : Shared) (ρ : Ad) (σ : St) (fr : List AV) (Kc : Bool -> St -> Prop) (Q : Bool -> Shared -> Prop) (E : Value -> Shared -> Prop), Bud lev A -> Act g ρ σ env vars fr s.heap -> W.t ir fr σ Kc -> PostB g ρ σ s Kc Q ->
      wpN (model prog w) A (isTrue e env (eval e env)) Q E s
theorem starEach_cons {env : Env} {e : Expr} {es : List Expr} (h : aS e = true) : starEach (e :: es) env = (false, eval e env) :: starEach es env := by cases e <;> first | rfl | exact ff h
theorem chkAll_cons {f : Expr -> IE -> Bool} {e : Expr} {es : List Expr} {i : IE} {is : List IE} (h : aZ f (e :: es) (i :: is) = true) : aS e = true /\ f e i = true /\ aZ f es is = true := ⟨(an (an h).1).1, (an (an h).1).2, (an h).2⟩
theorem dI {env : Env} {f : Expr -> IE -> Bool} : ∀ {es : List Expr} {is : List IE}, aZ f es is = true -> starEach es env = es.map fun e => (false, eval e env) := by
  intro es
  induction es with
  | nil => intro _ _; rfl
  | cons e es ih =>
    intro is h
    induction is using List.casesOn with
    | nil => exact ff h
    | cons i is =>
      obtain ⟨h1, h2, h3⟩ := chkAll_cons h
      rw [starEach_cons h1, ih h3]; rfl
theorem fA {env : Env} {pos : Pos} (es : List Expr) : backTo pos (es.map fun e => (false, eval e env)) = es.map fun e => (false, eval e env) := by
  unfold backTo
  rw [List.map_map]
  apply List.map_congr_left
  intro e _
  rfl
variable {lev : Nat} {vars : List Str} {W : Wp}
theorem gA (hE : SndE prog w g lev vars W) {m : Nat} {env : Env} : ∀ {es : List Expr} {is : List IE}, aZ (chkE m vars env.scope) es is = true ->
    ∀ (A : Around) (s : Shared) (ρ : Ad) (σ : St) (fr : List AV) (Kc : List AV -> St -> Prop) (Q : List Value -> Shared -> Prop) (E : Value -> Shared -> Prop), Bud lev A -> Act g ρ σ env vars fr s.heap -> wpEs W.e is fr σ Kc ->
      (∀ avs vs ρ' σ' h' tk, Kc avs σ' -> Dyn g ρ' σ' h' -> Stp NoP ρ σ s.heap ρ' σ' h' -> RVs ρ' σ' h' avs vs -> Q vs (Fb.sh s h' tk)) ->
      wpN (model prog w) A (spliced (es.map fun e => (false, eval e env))) Q E s := by
  intro es
  induction es with
  | nil =>
    intro is h A s ρ σ fr Kc Q E hB H hw hP
    induction is using List.casesOn with
    | nil => exact N.nil (hP [] [] ρ σ s.heap s.toks hw H.dyn (Stp.refl ..) .nil)
    | cons _ _ => exact ff h
  | cons e es ih =>
    intro is h A s ρ σ fr Kc Q E hB H hw hP
    induction is using List.casesOn with
    | nil => exact ff h
    | cons i is =>
      obtain ⟨h1, h2, h3⟩ := chkAll_cons h
      refine N.cons (hE m env e i h2 A s ρ σ fr _ _ E hB H hw ?_)
      intro av v BG AG hG tkG hk DG SG RG
      refine ih h3 A _ BG AG fr _ _ E hB (H.step DG SG) hk ?_
      intro avs vs BH AH hH tkH hkG DH SH RH
      exact hP (av :: avs) (v :: vs) BH AH hH tkH hkG DH (SG.trans SH) (.cons (RG.step SH) RH)
end
end Fb
namespace Fb
section
variable {prog : Program} {w : World} {A : Around} {E : Value -> Shared -> Prop} {s : Shared} {g : Heap} {ρ : Ad} {σ : St} {lev : Nat} {env : Env} {vars : List Str} {fr : List AV} {K : Frag} {Γ : Fns} {W : Wp}
@[elab_as_elim] theorem baseOk_el {P : Expr -> Prop} {e : Expr} (h : dW e = true) (h1 : ∀ x c, P (.Name x c)) (h2 : ∀ x y c, P (.Attribute x y c)) : P e := by
  cases e with
  | Name x c => exact h1 x c
  | Attribute x y c => exact h2 x y c
  | _ => exact ff h
theorem attr_eval {v : Expr} {a : Str} {pos : Pos} {Q : Value -> Shared -> Prop} (hb : dW v = true) (h : wpN (model prog w) A (eval v env) (fun o sG => wpN (model prog w) A (getAttr o a true) Q E sG) E s) :
    wpN (model prog w) A (eval (.Attribute v a pos) env) Q E s := by
  have he : eval (.Attribute v a pos) env = (eval v env >>= fun o => standAt pos.atName >>= fun _ => holding [o] (getAttr o a true) >>= fun r => letTemporaryGo v o r >>= fun _ => pure r) := by
    exact baseOk_el hb (fun _ _ => rfl) fun _ _ _ => rfl
  rw [he]
  refine aA (aD h (fun o sG hG => aA (aK (aA (aI (aD hG (fun r sH hH => ?_) fun _ _ x => x))))) fun _ _ x => x)
  exact aA (aB (wpAny_letTemporaryGo (aC hH)))
theorem cA {o : Expr} {name : Str} {apos pos : Pos} {args : List Expr} {is : List IE} {f : Expr -> IE -> Bool} {Q : Value -> Shared -> Prop} (hb : dW o = true) (hl : (apos.endLine == pos.line) = true) (hc : aZ f args is = true) (hn : args.length < 30)
    (h : wpN (model prog w) A (eval o env) (fun ov sG => wpN (model prog w) A (getMethod ov name (do return (<- importBound o env).getD true)) (fun fx sH => wpN (model prog w) A (callWith pos fx.1 fx.2 (args.map fun e => (false, eval e env)) []) Q E sH) E sG) E s) :
    wpN (model prog w) A (eval (.Call (.Attribute o name apos) args [] pos) env) Q E s := by
  have he : backTo pos (starEach args env) = args.map fun e => (false, eval e env) := by rw [dI hc, fA]
  have hf : methodCallForm (args.length + 0) (args.map fun e => (false, eval e env)) [] = true := by
    unfold methodCallForm
    simp only [List.all_map, List.all_nil, List.isEmpty_nil, Bool.and_true, if_true, Nat.add_zero, Bool.and_eq_true, decide_eq_true_eq]
    refine ⟨?_, hn⟩
    rw [List.all_eq_true]; intro x _; rfl
  have e0 : eval (.Call (.Attribute o name apos) args [] pos) env = (do
      let ov <- eval o env
      standAt apos.atName
      methodCall o name apos pos env ov (args.length + 0) (backTo pos (starEach args env)) []) := by
    exact baseOk_el hb (fun _ _ => rfl) fun _ _ _ => rfl
  rw [e0, he]
  refine aA (aD h (fun ov sG hG => aA (aK ?_)) fun _ _ x => x)
  unfold methodCall calleeOf methodCallPos
  rw [hf, hl]
  simp only [if_true, Bool.not_true, Bool.false_or]
  refine aA (aI (aD hG (fun fx sH hH => ?_) fun _ _ x => x))
  exact aA (aC hH)
theorem aX {f : Value} {first : List Value} {pos : Pos} {args : List Expr} {P : Heap -> Prop} {Q : Value -> Shared -> Prop}
    (hk : ∀ h, P h -> ∃ k, (k = Keeper.frame \/ k = Keeper.machine \/ k = Keeper.boundFrame) /\ Looks (model prog w) h (keeperOf f) k)
    (h : wpN (model prog w) A (spliced (args.map fun e => (false, eval e env))) (fun vs sG => P sG.heap /\ wpN (model prog w) A (call f (first ++ vs)) Q E sG) E s) :
    wpN (model prog w) A (callWith pos f first (args.map fun e => (false, eval e env)) []) Q E s := by
  refine N.callWith (P := P) ?_ hk ?_
  . have : ((args.map fun e => (false, eval e env)).any (·.1)) = false := by
      rw [List.any_map, List.any_eq_false]; intro x _; exact Bool.false_ne_true
    rw [this]; rfl
  . induction args using List.casesOn with
    | nil =>
      unfold evalArgs
      show wpN _ A (spliced [] >>= _) _ E s
      refine aA (aD h (fun vs s' h' => ?_) fun _ _ x => x)
      refine aI ?_
      exact aA (aC (aA (aC (aC h'))))
    | cons a r => exact N.evalArgs h
theorem dF (id : String) (h : Heap) (_ : True) : ∃ k, (k = Keeper.frame \/ k = Keeper.machine \/ k = Keeper.boundFrame) /\ Looks (model prog w) h (keeperOf (.builtin id)) k := ⟨.machine, .inr (.inl rfl), Looks.of_pure rfl⟩
theorem cP (id : String) (h : Heap) (_ : True) : ∃ k, (k = Keeper.frame \/ k = Keeper.machine \/ k = Keeper.boundFrame) /\ Looks (model prog w) h (keeperOf (.type id)) k := ⟨.machine, .inr (.inl rfl), Looks.of_pure rfl⟩
noncomputable def biVal : Bi -> Value
  | .len => .builtin "len" | .max => .builtin "max" | .min => .builtin "min" | .int => .type "int" | .list => .type "list" | .bytes => .type "bytes" | .tuple => .type "tuple" | .isinst => .builtin "isinstance" | .unpack => .builtin "_struct.unpack"
theorem biVal_glob (b : Bi) : bN[biName b]?.map (·.2) = some (.cst (biVal b)) := by induction b using Bi.casesOn <;> rfl
theorem keeper_bi (b : Bi) (h : Heap) (t : True) : ∃ k, (k = Keeper.frame \/ k = Keeper.machine \/ k = Keeper.boundFrame) /\ Looks (model prog w) h (keeperOf (biVal b)) k := by
  induction b using Bi.casesOn <;> first | exact dF _ h t | exact cP _ h t
noncomputable def BifOk (prog : Program) (w : World) (g : Heap) (lev : Nat) : Prop :=
  ∀ (b : Bi) (A : Around) (s : Shared) (ρ : Ad) (σ : St) (avs : List AV) (vs : List Value) (Kc : AV -> St -> Prop) (Q E : Value -> Shared -> Prop), Bud lev A -> g.StaysIn s.heap -> Dyn g ρ σ s.heap -> RVs ρ σ s.heap avs vs -> wpBif b avs σ Kc -> PostE g ρ σ s Kc Q ->
    wpAny (model prog w) A (call (biVal b) vs) Q E s
noncomputable def PackOk (prog : Program) (w : World) (g : Heap) (lev : Nat) : Prop :=
  ∀ (A : Around) (s : Shared) (ρ : Ad) (σ : St) (f : Addr) (b c d : AV) (y z u : Value) (Kc : AV -> St -> Prop) (Q E : Value -> Shared -> Prop), Bud lev A -> g.StaysIn s.heap -> Dyn g ρ σ s.heap -> RV ρ σ s.heap b y -> RV ρ σ s.heap c z -> RV ρ σ s.heap d u -> wpPack (.cst (.ref f)) b c d σ Kc -> PostE g ρ σ s Kc Q ->
    wpAny (model prog w) A (call (.builtin "_struct.Struct.pack_into") [.ref f, y, z, u]) Q E s
noncomputable def PackMeth (prog : Program) (w : World) (g : Heap) : Prop :=
  ∀ (A : Around) (s : Shared) (f : Addr) (pl : Sem Bool) (Q : Value × List Value -> Shared -> Prop) (E : Value -> Shared -> Prop), g.StaysIn s.heap -> (fL f).isSome = true -> Q (.builtin "_struct.Struct.pack_into", [.ref f]) s ->
    wpAny (model prog w) A (getMethod (.ref f) (PySem.Str.ofString "pack_into") pl) Q E s
theorem fnMeth (T : Stat K g) (KF : KFacts K) {i : Nat} {x : Str} {a : Addr} {pl : Sem Bool} {Q : Value × List Value -> Shared -> Prop} (st : g.StaysIn s.heap) (D : Dyn g ρ σ s.heap) (hm : oB[i]? = some (x, a)) (h : Q (.ref a, [.ref ρ.b]) s) :
    wpAny (model prog w) A (getMethod (.ref ρ.b) x pl) Q E s := by
  have zq0 := KF.meth i x a hm; have a1 := zq0.1; have a2 := zq0.2.1; have a3 := zq0.2.2.1; have a4 := zq0.2.2.2; clear zq0
  obtain ⟨sl, zq0⟩ := D.ob; have e1 := zq0.1; have e2 := zq0.2.1; have e3 := zq0.2.2
  have I : InstAt s.heap ρ.b _ 729 (some (dictOf [] 0)) := ⟨e1, rfl, rfl, D.dx⟩
  exact method_fn (T.X.keeps st) I (plainGet_of a1).1 (plainGet_of a1).2 a2 (beq_iff_eq.mp a3) (by show (lookIn x (dictOf [] 0)).map _ = _; rw [lookIn_dict]; rfl) h
theorem dY {i : Nat} {x : Str} {k : Option NameKind} (h : dO i x k = true) : (∃ v, bN[i]? = some (x, v)) /\ k = some .globalImplicit /\ cK x = true := by
  unfold dO at h
  simp only [Bool.and_eq_true] at h
  refine ⟨?_, eq_of_beq h.1.2, h.2⟩
  induction hq : bN[i]? using Option.casesOn with
  | none => rw [hq] at h; exact absurd h.1.1 Bool.false_ne_true
  | some p =>
    rw [hq] at h
    have := eq_of_beq h.1.1
    exact ⟨p.2, by rw [<- this]⟩
theorem bF {x : Str} (h : cK x = true) : (x == ("__debug__" : Str)) = false /\ (x == ("__classdict__" : Str)) = false := by
  unfold cK at h
  simp only [Bool.and_eq_true, Bool.not_eq_true'] at h
  exact h
end
end Fb
namespace Fb
section
variable {prog : Program} {w : World} {g : Heap} {lev : Nat} {vars : List Str} {K : Frag} {Γ : Fns} {W : Wp}
noncomputable def NodeE (prog : Program) (w : World) (g : Heap) (lev : Nat) (vars : List Str) (Γ : Fns) (W : Wp) (env : Env) (e : Expr) (ir : IE) : Prop :=
    ∀ (A : Around) (s : Shared) (ρ : Ad) (σ : St) (fr : List AV) (Kc : AV -> St -> Prop) (Q E : Value -> Shared -> Prop), Bud lev A -> Act g ρ σ env vars fr s.heap -> wpNextE Γ W ir fr σ Kc -> PostE g ρ σ s Kc Q ->
      wpN (model prog w) A (eval e env) Q E s
theorem lit_sound {c : Const} {v : AV} {k : Nat} {pos : Pos} {env : Env} (h : litOk c v = true) : NodeE prog w g lev vars Γ W env (.Constant c k pos) (.lit v) := by
  intro A s ρ σ fr Kc Q E hB H hw hP
  induction v using AV.casesOn with
  | none => rw [isNo_eq h]; exact aB (Constant_none (hP _ _ ρ σ s.heap s.toks hw H.dyn (Stp.refl ..) .none))
  | bool b => rw [isB_eq h]; exact aB (Constant_bool (hP _ _ ρ σ s.heap s.toks hw H.dyn (Stp.refl ..) (.bool _)))
  | int i => rw [isC_eq h]; exact aB (wpAny_Constant_int (hP _ _ ρ σ s.heap _ hw H.dyn (Stp.refl ..) (.int _ _)))
  | bytes b => rw [isBy_eq h]; exact aB (Constant_bytes (hP _ _ ρ σ s.heap _ hw H.dyn (Stp.refl ..) (.bytes _ _)))
  | str x => rw [isSt_eq h]; exact aB (Constant_str (hP _ _ ρ σ s.heap _ hw H.dyn (Stp.refl ..) (.str _ _)))
  | _ => exact ff h
set_option tactic.hygienic true in
theorem loc_sound {x : Str} {pos : Pos} {i : Nat} {env : Env} (h : ((match vars[i]? with | some y => y == x | none => false) && visK (env.scope.names.lookup x) && cK x) = true) : NodeE prog w g lev vars Γ W env (.Name x pos) (.loc i) := by
  intro A s ρ σ fr Kc Q E hB H hw hP
  simp only [Bool.and_eq_true] at h
  refine bcn fun nG => ?_; obtain ⟨⟨h1, h2⟩, h3⟩ := h
  have hi : vars[i]? = some x := by
    induction hq : vars[i]? using Option.casesOn with
    | none => rw [hq] at h1; exact ff h1
    | some y => rw [hq] at h1; rw [eq_of_beq h1]
  have hv : Vis env x := by
    show env.scope.names.lookup x = _ \/ env.scope.names.lookup x = _ \/ env.scope.names.lookup x = _
    induction hq : env.scope.names.lookup x using Option.casesOn with
    | none => rw [hq] at h2; exact ff h2
    | some k => rw [hq] at h2; induction k using NameKind.casesOn <;> first | exact .inl rfl | exact .inr (.inl rfl) | exact .inr (.inr rfl) | cases h2
  obtain ⟨hd, hcd⟩ := bF h3
  refine nG ?_; change (match fr[i]? with | some .unb => False | some v => Kc v σ | none => False) at hw
  split at hw
  . exact hw.elim
  . rename_i v hu hf
    exact aB (jB H hi hv hf (fun q => hu (by rw [q])) hd hcd fun v' r => hP _ _ ρ σ s.heap s.toks hw H.dyn (Stp.refl ..) r)
  . exact hw.elim
theorem glob_sound (T : Stat K g) (KF : KFacts K) {x : Str} {pos : Pos} {i : Nat} {env : Env} (h : dO i x (env.scope.names.lookup x) = true) : NodeE prog w g lev vars Γ W env (.Name x pos) (.glob i) := by
  intro A s ρ σ fr Kc Q E hB H hw hP
  refine bcn fun nG => ?_; obtain ⟨⟨v, hv⟩, hk, hp⟩ := dY h
  refine nG ?_; change (match bN[i]? with | some (_, v) => Kc v σ | none => False) at hw
  rw [hv] at hw
  exact aB (eL T KF H hv hk (bF hp).1 fun v' r => hP _ _ ρ σ s.heap s.toks hw H.dyn (Stp.refl ..) r)
theorem PostE.after {ρ BG : Ad} {σ AG : St} {s : Shared} {hG : Heap} {tk : Nat} {Kc : AV -> St -> Prop} {Q : Value -> Shared -> Prop} (hP : PostE g ρ σ s Kc Q) (S : Stp NoP ρ σ s.heap BG AG hG) : PostE g BG AG (Fb.sh s hG tk) Kc Q :=
  fun av v ρ' σ' h' tk' hk D S' R => hP av v ρ' σ' h' tk' hk D (S.trans S') R
theorem PostB.after {ρ BG : Ad} {σ AG : St} {s : Shared} {hG : Heap} {tk : Nat} {Kc : Bool -> St -> Prop} {Q : Bool -> Shared -> Prop} (hP : PostB g ρ σ s Kc Q) (S : Stp NoP ρ σ s.heap BG AG hG) : PostB g BG AG (Fb.sh s hG tk) Kc Q :=
  fun b ρ' σ' h' tk' hk D S' => hP b ρ' σ' h' tk' hk D (S.trans S')
theorem Dyn.tlAt {ρ : Ad} {σ : St} {h : Heap} {l : List Int} (D : Dyn g ρ σ h) (hl : σ.tl = some l) : ∃ c, ρ.tl = some c /\ ∃ vs n, h.get? c = some (lob vs n) /\ IntsAre vs.toList l := by
  have := D.tl
  rw [hl] at this
  induction hc : ρ.tl using Option.casesOn with
  | none => rw [hc] at this; exact this.elim
  | some c => rw [hc] at this; exact ⟨c, rfl, this⟩
section
variable {A : Around} {E : Value -> Shared -> Prop} {s : Shared} {ρ : Ad} {σ : St}
theorem append_op {n : Nat} {y : AV} {v u : Value} {Kc : AV -> St -> Prop} {Q : Value -> Shared -> Prop} (D : Dyn g ρ σ s.heap) (R : RV ρ σ s.heap (.tl n) v) (R' : RV ρ σ s.heap y u) (hw : wpAppend (.tl n) y σ Kc) (hP : PostE g ρ σ s Kc Q) :
    wpAny (model prog w) A (call (.builtin "list.append") [v, u]) Q E s := by
  obtain ⟨i, rfl, hw⟩ := gI hw
  obtain ⟨t, rfl⟩ := R'.int_inv
  have hw : (match σ.tl with | some l => (n = σ.tlv /\ l.length <= 100000) /\ Kc .none (σ.uTl (some (l ++ [i]))) | none => False) := hw
  induction hl : σ.tl using Option.casesOn with
  | none => rw [hl] at hw; exact hw.elim
  | some l =>
    rw [hl] at hw
    refine bcn fun nG => ?_; obtain ⟨c, hc, vs, n', e1, i1⟩ := D.tlAt hl
    have apc := D.apart.tl c hc
    have hl1 : vs.size = l.length := bI i1
    obtain ⟨⟨hn, hz⟩, hk⟩ := hw
    refine nG ?_; obtain rfl := R.tl_inv hn c hc
    refine call_meets PySem.F.slot_list_append (eE e1).typeIs PySem.F.entry_list_append (PySem.F.args_list_append_2 _ _) (AutoListH.list_append_list_val_0 c vs n' (.int i t) (by rw [sizeLine_eq]; (rw [hl1]; lia))) ⟨e1, ?_⟩
    have e2 := Heap.get?_update_self (h := s.heap) (f := Obj.mapSeq fun x_1 => x_1.push (Value.int i t)) e1 (by rfl)
    refine bcn fun nG => ?_; obtain ⟨D', S'⟩ := lX (σ' := (σ.uTl (some (l ++ [i])))) (h' := s.heap.update c (Obj.mapSeq fun x_1 => x_1.push (Value.int i t))) D (tlM (ρ := ρ) hc) apc.1 apc.2.1 (fun a o ha e => ((Heap.SameBut.update ..).2 a ha).trans e) ⟨rfl, rfl, rfl, rfl⟩ (fun k => by induction k using Sl.casesOn <;> rfl)
      (fun _ => rfl) (fun q => absurd q apc.2.2.1) (fun _ => rfl) (fun q => absurd q apc.2.2.2.1) (fun _ => rfl) (fun q => absurd q apc.2.2.2.2.2.2.1) (fun _ => rfl) (fun q => absurd q apc.2.2.2.2.2.2.2) (fun q => absurd hc q) (fun _ => by
        rw [hc]
        exact ⟨vs.push (.int i t), _, e2, by rw [Array.toList_push]; exact gF i1 (.cons i t .nil)⟩)
      (fun _ => ⟨rfl, rfl⟩) (fun q => absurd q apc.2.2.2.2.1) (fun _ => ⟨rfl, rfl⟩) (fun q => absurd q apc.2.2.2.2.2.1)
    refine nG ?_; exact hP _ _ ρ _ _ s.toks hk D' S' .none
theorem dget_op (hB : Bud lev A) {y : AV} {u : Value} {Kc : AV -> St -> Prop} {Q : Value -> Shared -> Prop} (D : Dyn g ρ σ s.heap) (R' : RV ρ σ s.heap y u) (hw : wpDget .vts y σ Kc) (hP : PostE g ρ σ s Kc Q) :
    wpAny (model prog w) A (call (.builtin "dict.get") [.ref ρ.vd, u]) Q E s := by
  refine bcn fun nG => ?_; obtain ⟨k, zq0⟩ := aItup_inv hw; obtain rfl := zq0.1; have hw := zq0.2
  obtain ⟨a3, vs3, n3, zq0⟩ := R'.itup_inv; obtain rfl := zq0.1; have f3 := zq0.2.1; have e3 := zq0.2.2.1; have i3 := zq0.2.2.2
  obtain ⟨xs, zq0⟩ := dictH (prog := prog) (w := w) D; have hd := zq0.1; have hm := zq0.2.1; have hr := zq0.2.2
  have hk : IsTupleKey (intKind prog w) s.heap k a3 := ⟨_, _, _, e3, rfl, rfl, items_of i3⟩
  have lo : (ρ.vd == sysModules) = false := beq_false_of_ne D.vd1
  refine nG ?_; refine call_meetsIn PySem.F.slot_dict_get hd.typeIs PySem.F.entry_dict_get (PySem.F.args_dict_get_2 _ _) (meetsH_dict_get (tupleKind (intKind prog w)) ρ.vd a3 lo) ⟨by have := hB.un; have := cLine_is; show A.units + 1 < cLine; (rw [this]; lia), k, xs, hk, hd, ?_⟩
  rw [not_at hm hw.1]
  exact hP _ _ ρ σ s.heap _ hw.2 D (Stp.refl ..) .none
end
theorem allInts_cons {x : AV} {xs : List AV} {is : List Int} (e : dE (x :: xs) = some is) : ∃ i l, x = .int i /\ dE xs = some l /\ is = i :: l := by
  induction x using AV.casesOn with
  | int i =>
    have e : (match dE xs with | some l => some (i :: l) | none => none) = some is := e
    induction hq : dE xs using Option.casesOn with
    | none => rw [hq] at e; exact nomatch e
    | some l => rw [hq] at e; exact ⟨i, l, rfl, rfl, (Option.some.inj e).symm⟩
  | _ => exact nomatch (show none = some is from e)
theorem nS {ρ : Ad} {σ : St} {h : Heap} {l : List AV} : ∀ {vs : List Value} {is : List Int}, RVs ρ σ h l vs -> dE l = some is -> IntsAre vs is := by
  induction l with
  | nil => intro vs is r e; cases r; cases e; exact .nil
  | cons x xs ih =>
    intro vs is r e
    obtain ⟨i, l, rfl, e2, rfl⟩ := allInts_cons e
    cases r with
    | cons r rs =>
      obtain ⟨t, rfl⟩ := r.int_inv
      exact .cons i t (ih rs e2)
section
variable {A : Around} {E : Value -> Shared -> Prop} {s : Shared} {ρ : Ad} {σ : St}
set_option tactic.hygienic true in
theorem newList_sound {avs : List AV} {vs : List Value} {Kc : AV -> St -> Prop} {Q : Value -> Shared -> Prop} (D : Dyn g ρ σ s.heap) (R : RVs ρ σ s.heap avs vs) (hw : avs.length <= 1000 /\ Kc (cC avs) σ) (hP : PostE g ρ σ s Kc Q) :
    wpAny (model prog w) A (newList vs) Q E s := by
  refine wpAny_newObj_type ?_ (by show vs.toArray.size <= sizeLine; rw [List.size_toArray, dB R, sizeLine_eq]; (have q1 := hw.1; clear hw; (exact Nat.le_trans (by assumption) (Nat.le_add_left _ _))))
  have G := Grows.push s.heap (lob vs.toArray 0)
  refine hP _ _ ρ σ _ s.toks hw.2 (D.grow G) G.stp ?_
  unfold cC
  split
  . rename_i is e; exact RV.ints (D.fresh (Nat.le_refl _)) (Heap.get?_push_size _ rfl) (by simpa using nS R e)
  . exact RV.lst (D.fresh (Nat.le_refl _)) (Heap.get?_push_size _ rfl) (by simpa using R.step G.stp)
set_option tactic.hygienic true in
theorem newTuple_sound {avs : List AV} {vs : List Value} {Kc : AV -> St -> Prop} {Q : Value -> Shared -> Prop} (D : Dyn g ρ σ s.heap) (R : RVs ρ σ s.heap avs vs) (hw : avs.length <= 1000 /\ Kc (mkTup avs) σ) (hP : PostE g ρ σ s Kc Q) :
    wpAny (model prog w) A (newTuple vs) Q E s := by
  refine wpAny_newObj_type ?_ (by show vs.toArray.size <= sizeLine; rw [List.size_toArray, dB R, sizeLine_eq]; (have q1 := hw.1; clear hw; lia))
  have G := Grows.push s.heap (tob vs.toArray 0)
  refine hP _ _ ρ σ _ s.toks hw.2 (D.grow G) G.stp ?_
  unfold mkTup
  split
  . rename_i is e; exact RV.itup (D.fresh (Nat.le_refl _)) (Heap.get?_push_size _ rfl) (by simpa using nS R e)
  . exact RV.tup (D.fresh (Nat.le_refl _)) (Heap.get?_push_size _ rfl) (by simpa using R.step G.stp)
end
theorem fV {prog : Program} {w : World} {A : Around} {E : Value -> Shared -> Prop} {s : Shared} {env : Env} {x : Str} {px pos : Pos} {args : List Expr} {is : List IE} {f : Expr -> IE -> Bool} {Q : Value -> Shared -> Prop} (hc : aZ f args is = true)
    (h : wpN (model prog w) A (eval (.Name x px) env) (fun v sG => wpN (model prog w) A (callWith pos v [] (args.map fun e => (false, eval e env)) []) Q E sG) E s) :
    wpN (model prog w) A (eval (.Call (.Name x px) args [] pos) env) Q E s := by
  have e0 : eval (.Call (.Name x px) args [] pos) env = (do callWith pos (<- eval (.Name x px) env) [] (backTo pos (starEach args env)) []) := rfl
  rw [e0, dI hc, fA]
  exact aA h
section
variable {A : Around} {E : Value -> Shared -> Prop} {s : Shared} {env : Env} {ρ : Ad} {σ : St}
noncomputable abbrev sob (a b c : Value) : Obj := { cls := .type "slice", data := .fields #[a, b, c] }
theorem mN {u : Expr} {p : Pos} {Q : Value -> Shared -> Prop} (h : wpN (model prog w) A (eval u env) (fun v sG => Q (.ref sG.heap.objs.size) { sG with heap := sG.heap.push (sob .none v .none) }) E s) :
    wpN (model prog w) A (eval (.Slice none (some u) none p) env) Q E s := by
  show wpN _ A (do let l <- pure Value.none; let u <- holding [l] (eval u env); let s <- holding [l, u] (pure Value.none); newFields "slice" [l, u, s]) Q E s
  exact aA (aC (aA (aI (aD h (fun v sG hG => aA (aI (aC (aB <| wpAny_newObj_type hG (by show (3 : Nat) <= _; rw [sizeLine_eq]; (exact Nat.le_add_left _ _)))))) fun _ _ x => x))))
theorem mP {l : Expr} {p : Pos} {Q : Value -> Shared -> Prop} (h : wpN (model prog w) A (eval l env) (fun v sG => Q (.ref sG.heap.objs.size) { sG with heap := sG.heap.push (sob v .none .none) }) E s) :
    wpN (model prog w) A (eval (.Slice (some l) none none p) env) Q E s := by
  show wpN _ A (do let l <- eval l env; let u <- holding [l] (pure Value.none); let s <- holding [l, u] (pure Value.none); newFields "slice" [l, u, s]) Q E s
  exact aA (aD h (fun v sG hG => aA (aI (aC (aA (aI (aC (aB <| wpAny_newObj_type hG (by show (3 : Nat) <= _; rw [sizeLine_eq]; (exact Nat.le_add_left _ _))))))))) fun _ _ x => x)
theorem slice_rev {p p1 p2 : Pos} {k : Nat} {Q : Value -> Shared -> Prop} (h : Q (.ref s.heap.objs.size) (Fb.sh s (s.heap.push (sob .none .none (.int (-1) (s.toks + 1)))) (s.toks + 1 + 1))) :
    wpAny (model prog w) A (eval (.Slice none none (some (.UnaryOp .USub (.Constant (.int 1) k p1) p2)) p) env) Q E s := by
  show wpAny _ A (do let l <- pure Value.none; let u <- holding [l] (pure Value.none); let s <- holding [l, u] (eval (.UnaryOp .USub (.Constant (.int 1) k p1) p2) env); newFields "slice" [l, u, s]) Q E s
  exact wpAny_bind (wpAny_pure (wpAny_bind (wpAny_holding (wpAny_pure (wpAny_bind (wpAny_holding (UnaryOp_ (wpAny_Constant_int (P.neg_int (wpAny_newObj_type h (by show (3 : Nat) <= _; rw [sizeLine_eq]; lia)))))))))))
theorem slTo_op {value h : Expr} {p : Pos} {a b : AV} {v u : Value} {Kc : AV -> St -> Prop} {Q : Value -> Shared -> Prop} (D : Dyn g ρ σ s.heap) (ra : RV ρ σ s.heap a v) (rb : RV ρ σ s.heap b u) (hw : wpSlTo a b σ Kc) (hP : PostE g ρ σ s Kc Q) :
    wpAny (model prog w) A (subscriptTail value (.Slice none (some h) none p) v (.ref s.heap.objs.size)) Q E { s with heap := s.heap.push (sob .none u .none) } := by
  obtain ⟨l, rfl, hw⟩ := aInts_inv hw
  obtain ⟨i, rfl, hw⟩ := gI hw
  obtain ⟨x, vs, m, rfl, f, e, is⟩ := ra.ints_inv
  obtain ⟨t, rfl⟩ := rb.int_inv
  have G := Grows.push s.heap (sob .none (.int i t) .none)
  have hl : vs.size = l.length := bI is
  have hil : (s.heap.push (sob .none (.int i t) .none)).IsList x vs := eE (G _ _ e)
  refine tail_any (T := "list") (ops := [.ref s.heap.objs.size, .ref x]) (Heap.IsList.typeIs (s := { s with heap := _ }) hil) slot_list_getitem.lookup (wpAny_getItem_list_slice hil (Heap.IsSliceOf.new ..) .none (.int i t) .none (by simp) ?_ (by rw [sizeLine_eq]; omega)) rfl
  have G2 := G.trans (Grows.push _ (lob (slicePick vs none (some i) none) 0))
  refine hP _ _ ρ σ _ s.toks hw.2 (D.grow G2) G2.stp (.ints (D.fresh (by rw [Heap.size_push]; (exact Nat.le_add_right _ _))) (Heap.get?_push_size _ rfl) ?_)
  have := slice_ints_uptoW (vs := vs.toList) is (y := i) (by lia)
  simpa using this
theorem lY {ρ : Ad} {σ : St} {h : Heap} : ∀ {a b : List AV} {vs us : List Value}, RVs ρ σ h a vs -> RVs ρ σ h b us -> RVs ρ σ h (a ++ b) (vs ++ us)
  | _, _, _, _, .nil, y => y
  | _, _, _, _, .cons x r, y => .cons x (lY r y)
theorem rvs_reverse {ρ : Ad} {σ : St} {h : Heap} : ∀ {a : List AV} {vs : List Value}, RVs ρ σ h a vs -> RVs ρ σ h a.reverse vs.reverse
  | _, _, .nil => .nil
  | _, _, .cons x r => by rw [List.reverse_cons, List.reverse_cons]; exact lY (rvs_reverse r) (.cons x .nil)
theorem ints_reverse : ∀ {vs : List Value} {ns : List Int}, IntsAre vs ns -> IntsAre vs.reverse ns.reverse
  | _, _, .nil => .nil
  | _, _, .cons n t r => by rw [List.reverse_cons, List.reverse_cons]; exact gF (ints_reverse r) (.cons n t .nil)
theorem rev_get {value st : Expr} {p : Pos} {T : Tok} {x : Addr} {vs : Array Value} {m : Nat} {Q : Value -> Shared -> Prop} (e : s.heap.get? x = some (lob vs m)) (hl : vs.size <= 1000000)
    (h : Grows s.heap ((s.heap.push (sob .none .none (.int (-1) T))).push (lob (slicePick vs none none (some (-1))) 0)) -> Q (.ref (s.heap.push (sob .none .none (.int (-1) T))).objs.size) { s with heap := (s.heap.push (sob .none .none (.int (-1) T))).push (lob (slicePick vs none none (some (-1))) 0) }) :
    wpAny (model prog w) A (subscriptTail value (.Slice none none (some st) p) (.ref x) (.ref s.heap.objs.size)) Q E { s with heap := s.heap.push (sob .none .none (.int (-1) T)) } := by
  have G := Grows.push s.heap (sob .none .none (.int (-1) T))
  have hil : (s.heap.push (sob .none .none (.int (-1) T))).IsList x vs := eE (G _ _ e)
  exact tail_any (T := "list") (ops := [.ref x, .ref s.heap.objs.size]) (Heap.IsList.typeIs (s := { s with heap := _ }) hil) slot_list_getitem.lookup (wpAny_getItem_list_slice hil (Heap.IsSliceOf.new ..) .none .none (.int (-1) T) (by simp) (h (G.trans (Grows.push _ _))) (by rw [sizeLine_eq]; (exact Nat.le_trans (by assumption) (Nat.le_add_left _ _)))) rfl
theorem rev_op {value st : Expr} {p : Pos} {T : Tok} {a : AV} {v : Value} {Kc : AV -> St -> Prop} {Q : Value -> Shared -> Prop} (D : Dyn g ρ σ s.heap) (ra : RV ρ σ s.heap a v) (hw : wpRev a σ Kc) (hP : PostE g ρ σ s Kc Q) :
    wpAny (model prog w) A (subscriptTail value (.Slice none none (some st) p) v (.ref s.heap.objs.size)) Q E { s with heap := s.heap.push (sob .none .none (.int (-1) T)) } := by
  induction a using AV.casesOn with
  | «ints» l =>
    refine bcn fun nG => ?_; obtain ⟨x, vs, m, zq0⟩ := ra.ints_inv; obtain rfl := zq0.1; have f := zq0.2.1; have e := zq0.2.2.1; have is := zq0.2.2.2
    have hl : vs.size = l.length := bI is
    refine nG ?_; refine rev_get e (hl ▸ hw.1) fun G2 => hP _ _ ρ σ _ s.toks hw.2 (D.grow G2) G2.stp (.ints (D.fresh (by rw [Heap.size_push]; (exact Nat.le_add_right _ _))) (Heap.get?_push_size _ rfl) ?_)
    rw [krv_pick]; exact ints_reverse is
  | lst l =>
    refine bcn fun nG => ?_; obtain ⟨x, vs, m, zq0⟩ := ra.lst_inv; obtain rfl := zq0.1; have f := zq0.2.1; have e := zq0.2.2.1; have is := zq0.2.2.2
    have hl : vs.size = l.length := dB is
    refine nG ?_; refine rev_get e (hl ▸ hw.1) fun G2 => hP _ _ ρ σ _ s.toks hw.2 (D.grow G2) G2.stp (.lst (D.fresh (by rw [Heap.size_push]; lia)) (Heap.get?_push_size _ rfl) ?_)
    have e0 : (slicePick vs none none (some (-1))).toList = vs.toList.reverse := by rw [krv_pick]
    rw [e0]; exact (rvs_reverse is).step G2.stp
  | _ => exact False.elim hw
end
noncomputable def BslOk (prog : Program) (w : World) (g : Heap) (lev : Nat) : Prop :=
  ∀ (value l : Expr) {p : Pos} (A : Around) (s : Shared) (ρ : Ad) (σ : St) (a b : AV) (v u : Value) (Kc : AV -> St -> Prop) (Q E : Value -> Shared -> Prop), Bud lev A -> Dyn g ρ σ s.heap -> RV ρ σ s.heap a v -> RV ρ σ s.heap b u -> wpSlFrom a b σ Kc -> PostE g ρ σ s Kc Q ->
    wpAny (model prog w) A (subscriptTail value (.Slice (some l) none none p) v (.ref s.heap.objs.size)) Q E { s with heap := s.heap.push (sob u .none .none) }
theorem marks (op : COp) (r : Expr) : behindInMarks (copOf op) r = false := by
  have h1 : (copOf op == CmpOp.In) = false := by induction op using COp.casesOn <;> rfl
  have h2 : (copOf op == CmpOp.NotIn) = false := by induction op using COp.casesOn <;> rfl
  unfold behindInMarks
  split
  . rw [h1, h2]; simp
  . rfl
section
variable {m : Nat} {env : Env}
theorem isRef_inv {v : AV} {x : Str} (h : (match some (x, v) with | some (_, .cst (.ref _)) => true | _ => false) = true) : ∃ a, v = .cst (.ref a) := by
  induction v using AV.casesOn with
  | cst v => cases v <;> first | exact ⟨_, rfl⟩ | exact ff h
  | _ => exact ff h
theorem call_sound (T : Stat K g) (KF : KFacts K) (hΓ : GV prog w g lev Γ) (hE : SndE prog w g lev vars W) {fi : Nat} {x : Str} {px pos : Pos} {xs : List Expr} {es : List IE} (h0 : isRefG fi = true) (h1 : dO fi x (env.scope.names.lookup x) = true) (h2 : aZ (chkE m vars env.scope) xs es = true) :
    NodeE prog w g lev vars Γ W env (.Call (.Name x px) xs [] pos) (.call fi es) := by
  intro A s ρ σ fr Kc Q E hB H hw hP
  have zq0 := dY h1; obtain ⟨v, hv⟩ := zq0.1; have hkk := zq0.2.1; have hpn := zq0.2.2; clear zq0
  refine fV h2 (aB (eL T KF H hv hkk (bF hpn).1 fun f rf => ?_))
  change wpEs W.e es fr σ (fun vs AG => (match bN[fi]? with | some (_, .cst (.ref a)) => Γ a vs AG Kc | _ => False)) at hw
  have zq0 := an h0; have h00 := zq0.1; have h0 := zq0.2; clear zq0
  rw [hv] at hw h0
  obtain ⟨a, rfl⟩ := isRef_inv h0
  obtain rfl := rf.cst_inv
  refine aX (P := K.In) (keeps_K (KF.keep _ _ _ h00 hv)) (gA hE h2 A s ρ σ fr _ _ E hB H hw ?_)
  intro avs vs BG AG hG tkG hk DG SG RG
  exact ⟨T.X.keeps (H.step DG SG).st, hΓ a A (Fb.sh s hG tkG) BG AG avs vs Kc Q E hB (H.step DG SG).st DG RG hk (hP.after SG)⟩
theorem meth_sound (T : Stat K g) (KF : KFacts K) (hΓ : GV prog w g lev Γ) (hE : SndE prog w g lev vars W) {mi : Nat} {a : Str} {ap pos : Pos} {v : Expr} {o : IE} {xs : List Expr} {es : List IE} (h0 : methAt mi a = true) (h1 : dW v = true) (h2 : (ap.endLine == pos.line) = true) (h3 : xs.length < 30)
    (h4 : chkE m vars env.scope v o = true) (h5 : aZ (chkE m vars env.scope) xs es = true) :
    NodeE prog w g lev vars Γ W env (.Call (.Attribute v a ap) xs [] pos) (.meth mi o es) := by
  intro A s ρ σ fr Kc Q E hB H hw hP
  refine cA h1 h2 h5 h3 (hE m env _ _ h4 A s ρ σ fr _ _ E hB H hw ?_)
  intro av u BG AG hG tkG hk DG SG RG
  have HG := H.step DG SG
  unfold methAt at h0
  induction hm : oB[mi]? using Option.casesOn with
  | none => rw [hm] at h0; exact ff h0
  | some p =>
    rw [hm] at h0 hk
    obtain ⟨y, f⟩ := p
    have e : y = a := eq_of_beq h0
    subst e
    obtain ⟨rfl, hk⟩ := aBld_inv (f := wpEs W.e es fr AG fun vs AH => Γ f (.bld :: vs) AH Kc) hk
    obtain rfl := RG.bld_inv
    refine aB (fnMeth (s := (Fb.sh s hG tkG)) T KF HG.st DG hm ?_)
    obtain ⟨b1, b2, b3, b4⟩ := KF.meth _ _ _ hm
    refine aX (P := K.In) (keeps_K b4) (gA hE h5 A _ BG AG fr _ _ E hB HG hk ?_)
    intro avs vs BH AH hH tkH hkG DH SH RH
    have stG := (HG.step DH SH).st
    exact ⟨T.X.keeps stG, hΓ f A (Fb.sh s hH tkH) BH AH (.bld :: avs) _ Kc Q E hB stG DH (.cons (by rw [<- SH.b]; exact .bld) RH) hkG ((hP.after SG).after SH)⟩
theorem bif_node (T : Stat K g) (KF : KFacts K) (hbif : BifOk prog w g lev) (hE : SndE prog w g lev vars W) {b : Bi} {x : Str} {px pos : Pos} {xs : List Expr} {es : List IE} (h1 : dO (biName b) x (env.scope.names.lookup x) = true) (h2 : aZ (chkE m vars env.scope) xs es = true) :
    NodeE prog w g lev vars Γ W env (.Call (.Name x px) xs [] pos) (.bif b es) := by
  intro A s ρ σ fr Kc Q E hB H hw hP
  have zq0 := dY h1; obtain ⟨v, hv⟩ := zq0.1; have hkk := zq0.2.1; have hpn := zq0.2.2; clear zq0
  have hbv := biVal_glob b
  rw [hv] at hbv
  have hve : v = .cst (biVal b) := Option.some.inj hbv
  subst hve
  refine fV h2 (aB (eL T KF H hv hkk (bF hpn).1 fun f rf => ?_))
  obtain rfl := rf.cst_inv
  refine aX (P := fun _ => True) (keeper_bi b) (gA hE h2 A s ρ σ fr _ _ E hB H hw ?_)
  intro avs vs BG AG hG tkG hk DG SG RG
  exact ⟨trivial, aB (hbif b A (Fb.sh s hG tkG) BG AG avs vs Kc Q E hB (H.step DG SG).st DG RG hk (hP.after SG))⟩
set_option tactic.hygienic true in
theorem pyty_sound (T : Stat K g) (KF : KFacts K) (hbif : BifOk prog w g lev) (hE : SndE prog w g lev vars W) {y : Str} {ap pos : Pos} {v x : Expr} {o a : IE} (h0 : (y == CA.name .py_type) = true) (h1 : dW v = true) (h2 : (ap.endLine == pos.line) = true) (h3 : aS x = true)
    (h4 : chkE m vars env.scope v o = true) (h5 : chkE m vars env.scope x a = true) :
    NodeE prog w g lev vars Γ W env (.Call (.Attribute v y ap) [x] [] pos) (.pyty o a) := by
  intro A s ρ σ fr Kc Q E hB H hw hP
  rw [eq_of_beq h0]
  have hc : aZ (chkE m vars env.scope) [x] [a] = true := by simp [aZ, h3, h5]
  refine cA h1 h2 hc (by simp) (hE m env _ _ h4 A s ρ σ fr _ _ E hB H hw ?_)
  intro av u BG AG hG tkG hk DG SG RG
  have HG := H.step DG SG
  obtain ⟨u0, rfl, hk1⟩ := aCst_inv hk
  obtain ⟨c, rfl, hk2⟩ := aRef_inv hk1
  obtain rfl := RG.cst_inv
  clear hk hk1
  have hk := hk2
  clear hk2
  . split at hk
    . rename_i hcv
      have hu : cI c .py_type ≠ .unb := by rw [hcv]; intro q; cases q
      have zq0 := KF.pyty c hu; have a1 := zq0.1; have a2 := zq0.2.1; have a3 := zq0.2.2; clear zq0
      refine aB (method_cls (T.X.keeps HG.st) (KF.cmeth c hu) (cls_int (s := (Fb.sh s hG tkG)) (T.X.keeps HG.st) a1 a2 a3 ?_))
      have HG' : Act g BG AG env vars fr ((Fb.sh s hG (tkG + 1)) : Shared).heap := HG
      refine aX (P := fun _ => True) (cP "int") (N.cons (hE m env _ _ h5 A (Fb.sh s hG (tkG + 1)) BG AG fr _ _ E hB HG' hk ?_))
      intro bv z BH AH hH tkH hkG DH SH RH
      exact N.nil ⟨trivial, aB (hbif .int A (Fb.sh s hH tkH) BH AH [bv] [z] Kc Q E hB (HG.step DH SH).st DH (.cons RH .nil) hkG ((hP.after SG).after SH))⟩
    . exact hk.elim
set_option tactic.hygienic true in
theorem pack_sound (T : Stat K g) (KF : KFacts K) (hpk : PackOk prog w g lev) (hpm : PackMeth prog w g) (hE : SndE prog w g lev vars W) {y : Str} {ap pos : Pos} {v xG xH xJ : Expr} {o a b c : IE} (h0 : (y == Str.ofString "pack_into") = true) (h1 : dW v = true) (h2 : (ap.endLine == pos.line) = true)
    (s1 : aS xG = true) (s2 : aS xH = true) (s3 : aS xJ = true) (h4 : chkE m vars env.scope v o = true) (c1 : chkE m vars env.scope xG a = true) (c2 : chkE m vars env.scope xH b = true) (c3 : chkE m vars env.scope xJ c = true) :
    NodeE prog w g lev vars Γ W env (.Call (.Attribute v y ap) [xG, xH, xJ] [] pos) (.pack o a b c) := by
  intro A s ρ σ fr Kc Q E hB H hw hP
  rw [eq_of_beq h0]
  have hc : aZ (chkE m vars env.scope) [xG, xH, xJ] [a, b, c] = true := by simp [aZ, s1, s2, s3, c1, c2, c3]
  refine cA h1 h2 hc (by simp) (hE m env _ _ h4 A s ρ σ fr _ _ E hB H hw ?_)
  intro av u BG AG hG tkG hk DG SG RG
  have HG := H.step DG SG
  obtain ⟨u0, rfl, hk⟩ := aCst_inv hk
  obtain ⟨f, rfl, hk⟩ := aRef_inv hk
  obtain rfl := RG.cst_inv
  refine aB (hpm A (Fb.sh s hG tkG) f _ _ E HG.st hk.1 ?_)
  refine aX (P := fun _ => True) (dF _) (N.cons (hE m env _ _ c1 A (Fb.sh s hG tkG) BG AG fr _ _ E hB HG hk.2 ?_))
  intro y y' BH AH hH tkH hkG DH SH RH
  have HH := HG.step DH SH
  refine N.cons (hE m env _ _ c2 A _ BH AH fr _ _ E hB HH hkG ?_)
  intro z z' BW AJ hJ tkJ hkJ DJ SW RJ
  have HJ := HH.step DJ SW
  refine N.cons (hE m env _ _ c3 A _ BW AJ fr _ _ E hB HJ hkJ ?_)
  intro q q' BJ AW hW tkW hkH DW SJ RW
  exact N.nil ⟨trivial, aB (hpk A (Fb.sh s hW tkW) BJ AW f y z q y' z' q' Kc Q E hB (HJ.step DW SJ).st DW ((RH.step SW).step SJ) (RJ.step SJ) RW hkH ((((hP.after SG).after SH).after SW).after SJ))⟩
set_option tactic.hygienic true in
theorem append_sound (hE : SndE prog w g lev vars W) {y : Str} {ap pos : Pos} {v x : Expr} {o a : IE} (h0 : (y == Str.ofString "append") = true) (h1 : dW v = true) (h2 : (ap.endLine == pos.line) = true) (h3 : aS x = true)
    (h4 : chkE m vars env.scope v o = true) (h5 : chkE m vars env.scope x a = true) :
    NodeE prog w g lev vars Γ W env (.Call (.Attribute v y ap) [x] [] pos) (.append o a) := by
  intro A s ρ σ fr Kc Q E hB H hw hP
  rw [eq_of_beq h0]
  have hc : aZ (chkE m vars env.scope) [x] [a] = true := by simp [aZ, h3, h5]
  refine cA h1 h2 hc (by simp) (hE m env _ _ h4 A s ρ σ fr _ _ E hB H hw ?_)
  intro av u BG AG hG tkG hk DG SG RG
  have HG := H.step DG SG
  obtain ⟨n, rfl, hk1⟩ := aTl_inv hk
  clear hk; have hk := hk1; clear hk1
  refine bcn fun nG => ?_; obtain ⟨⟨hn, ht⟩, hk⟩ := hk
  obtain ⟨l, hl⟩ := Option.isSome_iff_exists.mp ht
  obtain ⟨c, zq0⟩ := DG.tlAt hl; have hc' := zq0.1; obtain ⟨vs, n', zq1⟩ := zq0.2; have e1 := zq1.1; have i1 := zq1.2
  refine nG ?_; obtain rfl := RG.tl_inv hn c hc'
  refine aB (getMethod_list_append (s := (Fb.sh s hG tkG)) e1 rfl rfl ?_)
  refine aX (P := fun _ => True) (dF _) (N.cons (hE m env _ _ h5 A (Fb.sh s hG tkG) BG AG fr _ _ E hB HG hk ?_))
  intro y y' BH AH hH tkH hkG DH SH RH
  refine N.nil ⟨trivial, ?_⟩
  have RG' := RG.step SH
  exact aB (append_op (s := (Fb.sh s hH tkH)) DH RG' RH hkG ((hP.after SG).after SH))
theorem dget_sound (hE : SndE prog w g lev vars W) {y : Str} {ap pos : Pos} {v x : Expr} {o a : IE} (h0 : (y == Str.ofString "get") = true) (h1 : dW v = true) (h2 : (ap.endLine == pos.line) = true) (h3 : aS x = true)
    (h4 : chkE m vars env.scope v o = true) (h5 : chkE m vars env.scope x a = true) :
    NodeE prog w g lev vars Γ W env (.Call (.Attribute v y ap) [x] [] pos) (.dget o a) := by
  intro A s ρ σ fr Kc Q E hB H hw hP
  rw [eq_of_beq h0]
  have hc : aZ (chkE m vars env.scope) [x] [a] = true := by simp [aZ, h3, h5]
  refine cA h1 h2 hc (by simp) (hE m env _ _ h4 A s ρ σ fr _ _ E hB H hw ?_)
  intro av u BG AG hG tkG hk DG SG RG
  have HG := H.step DG SG
  obtain ⟨rfl, hk⟩ := aVts_inv hk
  obtain rfl := RG.vts_inv
  obtain ⟨xs, zq0⟩ := dictH (prog := prog) (w := w) DG; have hd := zq0.1
  refine aB (getMethod_builtin (s := (Fb.sh s hG tkG)) hd.typeIs PySem.F.plainAttrs_dict PySem.F.slot_dict_get PySem.F.type_dict_get (dictOfH_noDict hd) ?_)
  refine aX (P := fun _ => True) (dF _) (N.cons (hE m env _ _ h5 A (Fb.sh s hG tkG) BG AG fr _ _ E hB HG hk ?_))
  intro y y' BH AH hH tkH hkG DH SH RH
  refine N.nil ⟨trivial, ?_⟩
  have := dget_op (s := (Fb.sh s hH tkH)) (w := w) (prog := prog) (A := A) (E := E) hB DH RH hkG ((hP.after SG).after SH)
  rw [<- SH.vd]; exact aB this
end
theorem nodes_sound (T : Stat K g) (KF : KFacts K) (hΓ : GV prog w g lev Γ) (hbif : BifOk prog w g lev) (hpk : PackOk prog w g lev) (hpm : PackMeth prog w g) (hbs : BslOk prog w g lev) (hE : SndE prog w g lev vars W) (hT : SndT prog w g lev vars W)
    (hcomp : ∀ (m : Nat) (env : Env) (e : Expr) (i : Nat) (n elt : IE), chkE m vars env.scope e (.comp i n elt) = true -> NodeE prog w g lev vars Γ W env e (.comp i n elt)) :
    ∀ (m : Nat) (env : Env) (e : Expr) (ir : IE), chkE m vars env.scope e ir = true -> NodeE prog w g lev vars Γ W env e ir := by
  intro m env e ir hc
  induction m using Nat.casesOn with
  | zero => exact ff hc
  | succ m =>
    induction ir using IE.casesOn with
    | bad => intro A s ρ σ fr Kc Q E hB H hw hP; exact hw.elim
    | lit v =>
      refine eI hc fun c k p hc => ?_
      exact lit_sound hc
    | loc i =>
      refine aV hc fun x p hc => ?_
      exact loc_sound hc
    | glob i =>
      refine aV hc fun x p hc => ?_
      exact glob_sound T KF hc
    | slot k o =>
      refine bK hc fun v a p hc => ?_
      obtain ⟨h12, h3⟩ := an hc
      obtain ⟨h1, h2⟩ := an h12
      intro A s ρ σ fr Kc Q E hB H hw hP
      rw [eq_of_beq h1]
      refine attr_eval h2 (hE m env _ _ h3 A s ρ σ fr _ _ E hB H hw ?_)
      intro av v BG AG hG tkG hk DG SG RG
      exact aB (get_slot_sound (s := (Fb.sh s hG tkG)) T KF (H.step DG SG).st DG RG hk (hP.after SG))
    | cattr x o =>
      refine bK hc fun v a p hc => ?_
      obtain ⟨h12, h3⟩ := an hc
      obtain ⟨h1, h2⟩ := an h12
      intro A s ρ σ fr Kc Q E hB H hw hP
      rw [eq_of_beq h1]
      refine attr_eval h2 (hE m env _ _ h3 A s ρ σ fr _ _ E hB H hw ?_)
      intro av v BG AG hG tkG hk DG SG RG
      exact aB (cattr_sound (s := (Fb.sh s hG tkG)) T KF (H.step DG SG).st DG RG hk (hP.after SG))
    | bin op a b =>
      refine onBin_el hc fun l o r p hc => ?_
      obtain ⟨h12, h3⟩ := an hc
      obtain ⟨h1, h2⟩ := an h12
      intro A s ρ σ fr Kc Q E hB H hw hP
      rw [nW h1]
      refine N.BinOp (hE m env _ _ h2 A s ρ σ fr _ _ E hB H hw ?_)
      intro av v BG AG hG tkG hk DG SG RG
      refine hE m env _ _ h3 A _ BG AG fr _ _ E hB (H.step DG SG) hk ?_
      intro bv u BH AH hH tkH hkG DH SH RH
      exact aB (bin_sound (s := (Fb.sh s hH tkH)) (by cases ‹BOp› <;> rfl) DH (RG.step SH) RH hkG ((hP.after SG).after SH))
    | un op a =>
      refine onUn_el hc fun o x p hc => ?_
      have hc := an hc
      intro A s ρ σ fr Kc Q E hB H hw hP
      rw [isUop_eq hc.1]
      refine N.UnaryOp (hE m env _ _ hc.2 A s ρ σ fr _ _ E hB H hw ?_)
      intro av v BG AG hG tkG hk DG SG RG
      exact aB (un_sound (s := (Fb.sh s hG tkG)) (by cases ‹UOp› <;> rfl) DG RG hk (hP.after SG))
    | cmp op a b =>
      refine nB hc fun l os rs p hc => ?_
      refine bW hc fun o hc => ?_
      refine bW hc fun r hc => ?_
      obtain ⟨h12, h3⟩ := an hc
      obtain ⟨h1, h2⟩ := an h12
      intro A s ρ σ fr Kc Q E hB H hw hP
      rw [isCop_eq h1]
      refine N.Compare1 (hE m env _ _ h2 A s ρ σ fr _ _ E hB H hw ?_) (marks _ _)
      intro av v BG AG hG tkG hk DG SG RG
      refine hE m env _ _ h3 A _ BG AG fr _ _ E hB (H.step DG SG) hk ?_
      intro bv u BH AH hH tkH hkG DH SH RH
      exact aB (nZ (s := (Fb.sh s hH tkH)) (n := lev) (by cases ‹COp› <;> rfl) hB DH (RG.step SH) RH hkG ((hP.after SG).after SH))
    | cmp2 oG oH a b c =>
      intro A s ρ σ fr Kc Q E hB H hw hP; exact hw.elim
    | and a b =>
      refine kK hc fun o xs p hc => ?_
      obtain ⟨h0, hc⟩ := an hc
      rw [isAnd_eq h0]
      refine fE hc fun x y hc => ?_
      have hc := an hc
      intro A s ρ σ fr Kc Q E hB H hw hP
      refine N.And (hE m env _ _ hc.1 A s ρ σ fr _ _ E hB H hw ?_)
      intro av v BG AG hG tkG hk DG SG RG
      refine aB (cR (s := (Fb.sh s hG tkG)) DG RG hk ?_)
      intro b BH AH hH tkH hkG DH SH
      induction b using Bool.casesOn with
      | true => exact N.One (hE m env _ _ hc.2 A _ BH AH fr _ _ E hB ((H.step DG SG).step DH SH) (hkG.1 rfl) ((hP.after SG).after SH))
      | false => exact hP _ _ BH AH hH tkH (hkG.2 rfl) DH (SG.trans SH) (RG.step SH)
    | and3 a b c =>
      refine kK hc fun o xs p hc => ?_
      obtain ⟨h0, hc⟩ := an hc
      rw [isAnd_eq h0]
      refine on3_el hc fun x y z hc => ?_
      have hc := And.intro (an (an hc).1) (an hc).2
      intro A s ρ σ fr Kc Q E hB H hw hP
      refine N.And (hE m env _ _ hc.1.1 A s ρ σ fr _ _ E hB H hw ?_)
      intro av v BG AG hG tkG hk DG SG RG
      refine aB (cR (s := (Fb.sh s hG tkG)) DG RG hk ?_)
      intro b BH AH hH tkH hkG DH SH
      induction b using Bool.casesOn with
      | false => exact hP _ _ BH AH hH tkH (hkG.2 rfl) DH (SG.trans SH) (RG.step SH)
      | true =>
        have HH := (H.step DG SG).step DH SH
        refine N.And (hE m env _ _ hc.1.2 A _ BH AH fr _ _ E hB HH (hkG.1 rfl) ?_)
        intro bv u BW AJ hJ tkJ hkJ DJ SW RJ
        refine aB (cR (s := (Fb.sh s hJ tkJ)) DJ RJ hkJ ?_)
        intro b' BJ AW hW tkW hkH DW SJ
        induction b' using Bool.casesOn with
        | false => exact hP _ _ BJ AW hW tkW (hkH.2 rfl) DW (((SG.trans SH).trans SW).trans SJ) (RJ.step SJ)
        | true => exact N.One (hE m env _ _ hc.2 A _ BJ AW fr _ _ E hB ((HH.step DJ SW).step DW SJ) (hkH.1 rfl) ((((hP.after SG).after SH).after SW).after SJ))
    | or a b =>
      intro A s ρ σ fr Kc Q E hB H hw hP; exact hw.elim
    | ite t a b =>
      refine onIfExp_el hc fun t' a' b' p hc => ?_
      have hc := And.intro (an (an hc).1) (an hc).2
      intro A s ρ σ fr Kc Q E hB H hw hP
      refine N.IfExp (hT m env _ _ hc.1.1 A s ρ σ fr _ _ E hB H hw ?_)
      intro b BG AG hG tkG hk DG SG
      induction b using Bool.casesOn with
      | true => exact hE m env _ _ hc.1.2 A _ BG AG fr _ _ E hB (H.step DG SG) (hk.1 rfl) (hP.after SG)
      | false => exact hE m env _ _ hc.2 A _ BG AG fr _ _ E hB (H.step DG SG) (hk.2 rfl) (hP.after SG)
    | idx o i =>
      refine dN hc fun v sl p hc => ?_
      obtain ⟨h12, h3⟩ := an hc
      obtain ⟨h1, h2⟩ := an h12
      intro A s ρ σ fr Kc Q E hB H hw hP
      refine N.Subscript (hE m env _ _ h2 A s ρ σ fr _ _ E hB H hw ?_)
      intro av v BG AG hG tkG hk DG SG RG
      refine hE m env _ _ h3 A _ BG AG fr _ _ E hB (H.step DG SG) hk ?_
      intro bv u BH AH hH tkH hkG DH SH RH
      exact aB (idx_sound (s := (Fb.sh s hH tkH)) h1 DH (RG.step SH) RH hkG ((hP.after SG).after SH))
    | slTo o hi =>
      refine dN hc fun v sl p hc => ?_
      refine fP hc fun x y z p' hc => ?_
      obtain ⟨h12, hc⟩ := an hc
      obtain rfl := bS (an h12).1
      obtain rfl := bS (an h12).2
      refine cN hc fun u hc => ?_
      have hc := an hc
      intro A s ρ σ fr Kc Q E hB H hw hP
      refine N.Subscript (hE m env _ _ hc.1 A s ρ σ fr _ _ E hB H hw ?_)
      intro av v BG AG hG tkG hk DG SG RG
      refine mN (hE m env _ _ hc.2 A _ BG AG fr _ _ E hB (H.step DG SG) hk ?_)
      intro bv u BH AH hH tkH hkG DH SH RH
      exact aB (slTo_op (s := (Fb.sh s hH tkH)) DH (RG.step SH) RH hkG ((hP.after SG).after SH))
    | slFrom o lo =>
      refine dN hc fun v sl p hc => ?_
      refine fP hc fun x y z p' hc => ?_
      obtain ⟨h12, hc⟩ := an hc
      obtain rfl := bS (an h12).1
      obtain rfl := bS (an h12).2
      refine cN hc fun u hc => ?_
      have hc := an hc
      intro A s ρ σ fr Kc Q E hB H hw hP
      refine N.Subscript (hE m env _ _ hc.1 A s ρ σ fr _ _ E hB H hw ?_)
      intro av v BG AG hG tkG hk DG SG RG
      refine mP (hE m env _ _ hc.2 A _ BG AG fr _ _ E hB (H.step DG SG) hk ?_)
      intro bv u BH AH hH tkH hkG DH SH RH
      exact aB (hbs _ _ A (Fb.sh s hH tkH) BH AH av bv v u Kc Q E hB DH (RG.step SH) RH hkG ((hP.after SG).after SH))
    | rev o =>
      refine dN hc fun v sl p hc => ?_
      refine fP hc fun x y z p' hc => ?_
      obtain ⟨h12, hc⟩ := an hc
      obtain rfl := bS (an h12).1
      obtain rfl := bS (an h12).2
      refine cN hc fun u hc => ?_
      refine onUn_el hc fun op yy p1 hc => ?_
      obtain ⟨h13, hz⟩ := an hc
      rw [isUop_eq (an h13).1]
      refine eI (an h13).2 fun c k p2 h3 => ?_
      rw [isC_eq h3]
      intro A s ρ σ fr Kc Q E hB H hw hP
      refine N.Subscript (hE m env _ _ hz A s ρ σ fr _ _ E hB H hw ?_)
      intro av v BG AG hG tkG hk DG SG RG
      refine aB (slice_rev ?_)
      exact aB (rev_op (s := (Fb.sh s hG (tkG + 1 + 1))) (T := tkG + 1) DG RG hk (hP.after SG))
    | list es =>
      refine fO hc fun xs p hc => ?_
      intro A s ρ σ fr Kc Q E hB H hw hP
      refine N.List ?_
      rw [dI hc, fA]
      refine gA hE hc A s ρ σ fr _ _ E hB H hw ?_
      intro avs vs BG AG hG tkG hk DG SG RG
      exact aB (newList_sound (s := (Fb.sh s hG tkG)) DG RG hk (hP.after SG))
    | tuple es =>
      refine onTuple_el hc fun xs k p hc => ?_
      intro A s ρ σ fr Kc Q E hB H hw hP
      refine N.Tuple ?_
      rw [dI hc, fA]
      refine gA hE hc A s ρ σ fr _ _ E hB H hw ?_
      intro avs vs BG AG hG tkG hk DG SG RG
      exact aB (newTuple_sound (s := (Fb.sh s hG tkG)) DG RG hk (hP.after SG))
    | call f es =>
      refine bA hc fun gg xs p hc => ?_
      refine aV hc fun x q hc => ?_
      have hc := And.intro (an (an hc).1) (an hc).2
      exact call_sound T KF hΓ hE hc.1.1 hc.1.2 hc.2
    | meth mm o es =>
      refine bA hc fun gg xs p hc => ?_
      refine bK hc fun v a ap hc => ?_
      obtain ⟨h1, h2⟩ := an hc
      obtain ⟨h1, h3⟩ := an h1
      obtain ⟨h1, h4⟩ := an h1
      obtain ⟨h1, h5⟩ := an h1
      exact meth_sound T KF hΓ hE (an h1).1 (an h1).2 h5 (of_decide_eq_true h4) h3 h2
    | «bif» b es =>
      refine bA hc fun gg xs p hc => ?_
      refine aV hc fun x q hc => ?_
      have hc := an hc
      exact bif_node T KF hbif hE hc.1 hc.2
    | pyty o a =>
      refine bA hc fun gg xs p hc => ?_
      refine bK hc fun v y ap hc => ?_
      refine bW hc fun x hc => ?_
      obtain ⟨h1, h2⟩ := an hc
      obtain ⟨h1, h3⟩ := an h1
      obtain ⟨h1, h4⟩ := an h1
      obtain ⟨h1, h5⟩ := an h1
      exact pyty_sound T KF hbif hE (an h1).1 (an h1).2 h5 h4 h3 h2
    | pack o a b c =>
      refine bA hc fun gg xs p hc => ?_
      refine bK hc fun v y ap hc => ?_
      refine on3_el hc fun x1 x2 x3 hc => ?_
      obtain ⟨h1, h2⟩ := an hc
      obtain ⟨h1, h3⟩ := an h1
      obtain ⟨h1, h4⟩ := an h1
      obtain ⟨h1, h5⟩ := an h1
      obtain ⟨h1, h6⟩ := an h1
      obtain ⟨h1, h7⟩ := an h1
      obtain ⟨h1, h8⟩ := an h1
      obtain ⟨h1, h9⟩ := an h1
      exact pack_sound T KF hpk hpm hE (an h1).1 (an h1).2 h9 h8 h7 h6 h5 h4 h3 h2
    | append o a =>
      refine bA hc fun gg xs p hc => ?_
      refine bK hc fun v y ap hc => ?_
      refine bW hc fun x hc => ?_
      obtain ⟨h1, h2⟩ := an hc
      obtain ⟨h1, h3⟩ := an h1
      obtain ⟨h1, h4⟩ := an h1
      obtain ⟨h1, h5⟩ := an h1
      exact append_sound hE (an h1).1 (an h1).2 h5 h4 h3 h2
    | dget o a =>
      refine bA hc fun gg xs p hc => ?_
      refine bK hc fun v y ap hc => ?_
      refine bW hc fun x hc => ?_
      obtain ⟨h1, h2⟩ := an hc
      obtain ⟨h1, h3⟩ := an h1
      obtain ⟨h1, h4⟩ := an h1
      obtain ⟨h1, h5⟩ := an h1
      exact dget_sound hE (an h1).1 (an h1).2 h5 h4 h3 h2
    | comp i n elt => exact hcomp _ _ _ _ _ _ hc
end
end Fb
namespace Fb
section
variable {prog : Program} {w : World} {g : Heap} {lev : Nat} {vars : List Str} {K : Frag} {Γ : Fns} {W : Wp}
noncomputable def PlainE (e : Expr) : Prop := ∀ (env : Env) (whole : Sem Value), isTrue e env whole = (do let v <- whole; standAt e.pos; holding [v] (truthy v))
theorem plain_e {m : Nat} {sc : Scope} {e : Expr} {ir : IE} (hp : plainT ir = true) (hc : chkE (m + 1) vars sc e ir = true) : PlainE e := by
  induction ir using IE.casesOn with
  | loc i => exact aV hc fun x p hc => fun _ _ => rfl
  | slot k o => exact bK hc fun v a p hc => fun _ _ => rfl
  | call f es => exact bA hc fun gg xs p hc => fun _ _ => rfl
  | meth f o es => exact bA hc fun gg xs p hc => fun _ _ => rfl
  | «bif» f es => exact bA hc fun gg xs p hc => fun _ _ => rfl
  | _ => exact ff hp
theorem tests_sound (hE : SndE prog w g lev vars W) (hT : SndT prog w g lev vars W) :
    ∀ (m : Nat) (env : Env) (e : Expr) (ir : IE), chkE m vars env.scope e ir = true ->
    ∀ (A : Around) (s : Shared) (ρ : Ad) (σ : St) (fr : List AV) (Kc : Bool -> St -> Prop) (Q : Bool -> Shared -> Prop) (E : Value -> Shared -> Prop), Bud lev A -> Act g ρ σ env vars fr s.heap -> wpNextT W ir fr σ Kc -> PostB g ρ σ s Kc Q ->
      wpN (model prog w) A (isTrue e env (eval e env)) Q E s := by
  intro m env e ir hc A s ρ σ fr Kc Q E hB H hw hP
  induction m using Nat.casesOn with
  | zero => exact ff hc
  | succ m =>
    have gen : plainT ir = true -> (W.e ir fr σ fun x AG => gC x AG Kc) -> wpN (model prog w) A (isTrue e env (eval e env)) Q E s := by
      intro hp hw
      refine N.tPlain (hE (m + 1) env e ir hc A s ρ σ fr _ _ E hB H hw ?_) (plain_e hp hc _ _)
      intro av v BG AG hG tkG hk DG SG RG
      exact aB (cR (s := (Fb.sh s hG tkG)) DG RG hk (hP.after SG))
    induction ir using IE.casesOn with
    | un op a =>
      induction op using UOp.casesOn with
      | not =>
        refine onUn_el hc fun o x p hd => ?_
        have hc := an hd
        rw [isUop_eq hc.1]
        refine N.tNot (hT m env _ _ hc.2 A s ρ σ fr _ _ E hB H hw ?_)
        intro b BG AG hG tkG hk DG SG
        exact hP _ BG AG hG tkG hk DG SG
      | _ => exact gen hw.1 hw.2
    | and a b =>
      refine kK hc fun o xs p hd => ?_
      refine bcn fun nG => ?_; obtain ⟨h0, hd⟩ := an hd
      refine nG ?_; rw [isAnd_eq h0]
      refine fE hd fun x y hd => ?_
      have hc := an hd
      refine N.tAnd (hT m env _ _ hc.1 A s ρ σ fr _ _ E hB H hw ?_)
      intro b BG AG hG tkG hk DG SG
      induction b using Bool.casesOn with
      | true =>
        refine N.tAnd (hT m env _ _ hc.2 A _ BG AG fr _ _ E hB (H.step DG SG) (hk.1 rfl) ?_)
        intro b BH AH hH tkH hkG DH SH
        induction b using Bool.casesOn with
        | true => exact N.tAndNil (hP _ BH AH hH tkH hkG DH (SG.trans SH))
        | false => exact hP _ BH AH hH tkH hkG DH (SG.trans SH)
      | false => exact hP _ BG AG hG tkG (hk.2 rfl) DG SG
    | or a b =>
      refine kK hc fun o xs p hd => ?_
      refine bcn fun nG => ?_; obtain ⟨h0, hd⟩ := an hd
      refine nG ?_; rw [isOr_eq h0]
      refine fE hd fun x y hd => ?_
      have hc := an hd
      refine N.tOr (hT m env _ _ hc.1 A s ρ σ fr _ _ E hB H hw ?_)
      intro b BG AG hG tkG hk DG SG
      induction b using Bool.casesOn with
      | false =>
        refine N.tOr (hT m env _ _ hc.2 A _ BG AG fr _ _ E hB (H.step DG SG) (hk.2 rfl) ?_)
        intro b BH AH hH tkH hkG DH SH
        induction b using Bool.casesOn with
        | false => exact N.tOrNil (hP _ BH AH hH tkH hkG DH (SG.trans SH))
        | true => exact hP _ BH AH hH tkH hkG DH (SG.trans SH)
      | true => exact hP _ BG AG hG tkG (hk.1 rfl) DG SG
    | cmp op a b =>
      refine nB hc fun l os rs p hd => ?_
      refine bW hd fun o hd2 => ?_
      refine bW hd2 fun r hd3 => ?_
      have hc := And.intro (an (an hd3).1) (an hd3).2
      rw [isCop_eq hc.1.1]
      refine N.tCompare1 (hE m env _ _ hc.1.2 A s ρ σ fr _ _ E hB H hw ?_) (marks _ _)
      intro av v BG AG hG tkG hk DG SG RG
      refine hE m env _ _ hc.2 A _ BG AG fr _ _ E hB (H.step DG SG) hk ?_
      intro bv u BH AH hH tkH hkG DH SH RH
      refine aB (nZ (s := (Fb.sh s hH tkH)) (n := lev) (by induction op using COp.casesOn <;> rfl) hB DH (RG.step SH) RH hkG ?_)
      intro cv c BW AJ hJ tkJ hkJ DJ SW RJ
      exact aB (cR (s := (Fb.sh s hJ tkJ)) DJ RJ hkJ (((hP.after SG).after SH).after SW))
    | cmp2 oG oH a b c =>
      refine nB hc fun l os rs p hd => ?_
      refine fE hd fun pG pH hd2 => ?_
      refine fE hd2 fun rG rH hd3 => ?_
      refine bcn fun nG => ?_; obtain ⟨hd4, y1⟩ := an hd3
      obtain ⟨hd5, y2⟩ := an hd4
      obtain ⟨hd6, y3⟩ := an hd5
      have hc := And.intro (And.intro (And.intro (an hd6) y3) y2) y1
      refine nG ?_; rw [isCop_eq hc.1.1.1.1, isCop_eq hc.1.1.1.2]
      refine N.tChain (hE m env _ _ hc.1.1.2 A s ρ σ fr _ _ E hB H hw ?_) (marks _ _)
      intro av v BG AG hG tkG hk DG SG RG
      have HG := H.step DG SG
      refine N.tLink (hE m env _ _ hc.1.2 A _ BG AG fr _ _ E hB HG hk ?_)
      intro bv u BH AH hH tkH hkG DH SH RH
      have HH := HG.step DH SH
      refine aB (nZ (s := (Fb.sh s hH tkH)) (n := lev) (by induction oG using COp.casesOn <;> rfl) hB DH (RG.step SH) RH hkG ?_)
      intro cv c' BW AJ hJ tkJ hkJ DJ SW RJ
      refine aB (cR (s := (Fb.sh s hJ tkJ)) DJ RJ hkJ ?_)
      intro q BJ AW hW tkW hkH DW SJ
      have HW := (HH.step DJ SW).step DW SJ
      induction q using Bool.casesOn with
      | false => exact hP _ BJ AW hW tkW (hkH.2 rfl) DW (((SG.trans SH).trans SW).trans SJ)
      | true =>
        refine N.tLast (hE m env _ _ hc.2 A _ BJ AW fr _ _ E hB HW (hkH.1 rfl) ?_)
        intro zv z BZ AZ hZ tkZ hkW DZ SZ RZ
        refine aB (nZ (s := (Fb.sh s hZ tkZ)) (n := lev) (by induction oH using COp.casesOn <;> rfl) hB DZ (((RH.step SW).step SJ).step SZ) RZ hkW ?_)
        intro cv c' BU AU h₆ tkU hkU DU SU RU
        exact aB (cR (s := (Fb.sh s h₆ tkU)) DU RU hkU ((((((hP.after SG).after SH).after SW).after SJ).after SZ).after SU))
    | _ => exact gen hw.1 hw.2
end
end Fb
namespace Fb
noncomputable def bV : Expr -> Bool
  | .ListComp _ _ _ _ => false
  | .SetComp _ _ _ _ => false
  | .DictComp _ _ _ _ _ => false
  | _ => true
noncomputable def stK : Option NameKind -> Bool
  | some .local => true
  | some .cell => true
  | _ => false
noncomputable def stAt (vs : List Str) (sc : Scope) (i : Nat) (x : Str) : Bool := (match vs[i]? with | some y => y == x | none => false) && stK (sc.names.lookup x) && cK x
noncomputable def chkTs (vs : List Str) (sc : Scope) : List Expr -> List Nat -> Bool
  | [], is => is.isEmpty
  | t :: ts, is => match is with
    | [] => false
    | i :: is => cB t (fun x => stAt vs sc i x) && chkTs vs sc ts is
noncomputable def notTup : Expr -> Bool
  | .Tuple _ _ _ => false
  | _ => true
noncomputable def dC (f : Stmt -> IS -> Bool) : List Stmt -> List IS -> Bool
  | [], is => is.isEmpty
  | s :: ss, is => match is with
    | [] => false
    | i :: is => f s i && dC f ss is
noncomputable def plainIter : Expr -> Bool
  | .Set _ _ _ => false
  | _ => true
noncomputable def onExprS (st : Stmt) (f : Expr -> Bool) : Bool := by
  cases st with
  | Expr v _ => exact f v
  | _ => exact false
noncomputable def gM (st : Stmt) (f : Expr -> Expr -> Bool) : Bool := by
  cases st with
  | Assign ts v _ => exact on1 ts fun t => f t v
  | _ => exact false
noncomputable def onAug (st : Stmt) (f : Expr -> Operator -> Expr -> Bool) : Bool := by
  cases st with
  | AugAssign t o v _ => exact f t o v
  | _ => exact false
noncomputable def onRet (st : Stmt) (f : Option Expr -> Bool) : Bool := by
  cases st with
  | Return v _ => exact f v
  | _ => exact false
noncomputable def onIf (st : Stmt) (f : Expr -> List Stmt -> List Stmt -> Bool) : Bool := by
  cases st with
  | If t a b _ => exact f t a b
  | _ => exact false
noncomputable def onWhl (st : Stmt) (f : Expr -> List Stmt -> Bool) : Bool := by
  cases st with
  | While t a kk _ => exact onNil kk (f t a)
  | _ => exact false
noncomputable def onFor (st : Stmt) (f : Expr -> Expr -> List Stmt -> Bool) : Bool := by
  cases st with
  | For t i b kk _ => exact onNil kk (f t i b)
  | _ => exact false
noncomputable def isCont (st : Stmt) : Bool := by
  cases st with
  | Continue _ => exact true
  | _ => exact false
@[elab_as_elim] theorem onExprS_el {st : Stmt} {f} {P : Stmt -> Prop} (h : onExprS st f = true) (cont : ∀ v p, f v = true -> P (.Expr v p)) : P st := by
  cases st with
  | Expr v p => exact cont v p h
  | _ => exact ff h
@[elab_as_elim] theorem bU {st : Stmt} {f} {P : Stmt -> Prop} (h : gM st f = true) (cont : ∀ t v p, f t v = true -> P (.Assign [t] v p)) : P st := by
  cases st with
  | Assign ts v p => exact bW (P := fun ts => P (.Assign ts v p)) h fun t h => cont t v p h
  | _ => exact ff h
@[elab_as_elim] theorem onAug_el {st : Stmt} {f} {P : Stmt -> Prop} (h : onAug st f = true) (cont : ∀ t o v p, f t o v = true -> P (.AugAssign t o v p)) : P st := by
  cases st with
  | AugAssign t o v p => exact cont t o v p h
  | _ => exact ff h
@[elab_as_elim] theorem nV {st : Stmt} {f} {P : Stmt -> Prop} (h : onRet st f = true) (cont : ∀ v p, f v = true -> P (.Return v p)) : P st := by
  cases st with
  | Return v p => exact cont v p h
  | _ => exact ff h
@[elab_as_elim] theorem onIf_el {st : Stmt} {f} {P : Stmt -> Prop} (h : onIf st f = true) (cont : ∀ t a b p, f t a b = true -> P (.If t a b p)) : P st := by
  cases st with
  | If t a b p => exact cont t a b p h
  | _ => exact ff h
@[elab_as_elim] theorem onWhl_el {st : Stmt} {f} {P : Stmt -> Prop} (h : onWhl st f = true) (cont : ∀ t a p, f t a = true -> P (.While t a [] p)) : P st := by
  cases st with
  | While t a kk p => exact onNil_el (P := fun kk => P (.While t a kk p)) h fun h => cont t a p h
  | _ => exact ff h
@[elab_as_elim] theorem onFor_el {st : Stmt} {f} {P : Stmt -> Prop} (h : onFor st f = true) (cont : ∀ t i b p, f t i b = true -> P (.For t i b [] p)) : P st := by
  cases st with
  | For t i b kk p => exact onNil_el (P := fun kk => P (.For t i b kk p)) h fun h => cont t i b p h
  | _ => exact ff h
theorem isCont_inv {st : Stmt} (h : isCont st = true) : ∃ p, st = .Continue p := by cases st <;> first | exact ff h | exact ⟨_, rfl⟩
noncomputable def on4 {α : Type} (l : List α) (f : α -> α -> α -> α -> Bool) : Bool := mB l fun a r => on3 r (f a)
@[elab_as_elim] theorem on4_el {α : Type} {l : List α} {f} {P : List α -> Prop} (h : on4 l f = true) (cont : ∀ a b c d, f a b c d = true -> P ([a, b, c, d])) : P l :=
  eN h fun a r h => on3_el (P := fun r => P (a :: r)) h fun b c d h => cont a b c d h
noncomputable def chkS : Nat -> List Str -> Scope -> Stmt -> IS -> Bool
  | 0, _, _, _, _ => false
  | n + 1, vs, sc, st, ir => match ir with
    | .bad => true
    | .expr e => onExprS st fun v => bV v && chkE 40 vs sc v e
    | .asg i e => gM st fun t v => cB t fun x => bV v && stAt vs sc i x && chkE 40 vs sc v e
    | .sets k o e => gM st fun t v => dX t fun o' a _ => bV v && a == k.name && chkE 40 vs sc v e && chkE 40 vs sc o' o
    | .newcv i m => gM st fun t v => dX t fun o' a _ => cB o' fun x => onBin v fun l op y => nT l fun zs => on1 zs fun z => jS z fun c => a == Sl.cv.name && chkE 40 vs sc y m && isC c 0 && isBop op .mul && (match vs[i]? with | some y => y == x | none => false) && visK (sc.names.lookup x) && cK x
    | .newtl i => gM st fun t v => cB t fun x => nT v fun zs => zs.isEmpty && stAt vs sc i x
    | .newtb i m => gM st fun t v => cB t fun x => dA v fun g ys _ => cB g fun r => on1 ys fun y => stAt vs sc i x && dO 11 r (sc.names.lookup r) && aS y && chkE 40 vs sc y m
    | .seti o i e => gM st fun t v => mS t fun o' i' => bV v && gG i' && chkE 40 vs sc v e && chkE 40 vs sc o' o && chkE 40 vs sc i' i
    | .setsl o lo hi e => gM st fun t v => mS t fun o' sl => lZ sl fun a b c => fZ c && fQ a fun l => fQ b fun h => bV v && chkE 40 vs sc v e && chkE 40 vs sc o' o && chkE 40 vs sc l lo && chkE 40 vs sc h hi
    | .setfrom o lo e => gM st fun t v => mS t fun o' sl => lZ sl fun a b c => fZ b && fZ c && fQ a fun l => bV v && chkE 40 vs sc v e && chkE 40 vs sc o' o && chkE 40 vs sc l lo
    | .unp is e => gM st fun t v => onTuple t fun ts => bV v && notTup v && chkTs vs sc ts is && chkE 40 vs sc v e
    | .aug i op e => onAug st fun t o v => cB t fun x => stAt vs sc i x && isBop o op && chkE 40 vs sc v e
    | .ret e => onRet st fun v => fQ v fun v => chkE 40 vs sc v e
    | .retn => onRet st fun v => fZ v
    | .ifs t a b => onIf st fun t' a' b' => chkE 40 vs sc t' t && dC (chkS n vs sc) a' a && dC (chkS n vs sc) b' b
    | .whl t b => onWhl st fun t' b' => chkE 40 vs sc t' t && dC (chkS n vs sc) b' b
    | .forr i es b => onFor st fun t it b' => cB t fun x => dA it fun g xs _ => cB g fun r => stAt vs sc i x && dO 9 r (sc.names.lookup r) && aZ (chkE 40 vs sc) xs es && dC (chkS n vs sc) b' b
    | .forl i e b => onFor st fun t it b' => cB t fun x => stAt vs sc i x && plainIter it && chkE 40 vs sc it e && dC (chkS n vs sc) b' b
    | .forrev i e b => onFor st fun t it b' => cB t fun x => dA it fun g ys _ => cB g fun r => on1 ys fun y => stAt vs sc i x && dO 10 r (sc.names.lookup r) && aS y && chkE 40 vs sc y e && dC (chkS n vs sc) b' b
    | .cont => isCont st
    | .asgc i j m elt => gM st fun t v => cB t fun x => stAt vs sc i x && chkE 40 vs sc v (.comp j m elt)
section
variable {prog : Program} {w : World} {g : Heap} {lev : Nat} {vars : List Str} {K : Frag} {Γ : Fns} {W : Wp}
noncomputable def FlR (ρ : Ad) (σ : St) (h : Heap) (fl : Fl) (f : Flow) : Prop :=
  ∀ P : Fl -> Flow -> Prop, P .next .next -> P .cont .cont -> (∀ av v, RV ρ σ h av v -> P (.ret av) (.ret v)) -> P fl f
@[elab_as_elim] theorem FlR.el {ρ : Ad} {σ : St} {h : Heap} {fl : Fl} {f : Flow} {P : Fl -> Flow -> Prop} (F : FlR ρ σ h fl f) (a : P .next .next) (b : P .cont .cont) (c : ∀ av v, RV ρ σ h av v -> P (.ret av) (.ret v)) : P fl f := F P a b c
theorem FlR.next {ρ : Ad} {σ : St} {h : Heap} : FlR ρ σ h .next .next := fun _ a _ _ => a
theorem FlR.cont {ρ : Ad} {σ : St} {h : Heap} : FlR ρ σ h .cont .cont := fun _ _ a _ => a
theorem FlR.ret {ρ : Ad} {σ : St} {h : Heap} {av : AV} {v : Value} (r : RV ρ σ h av v) : FlR ρ σ h (.ret av) (.ret v) := fun _ _ _ a => a _ _ r
noncomputable def PostS (g : Heap) (env : Env) (vars : List Str) (ρ : Ad) (σ : St) (s : Shared) (Kc : Fl -> List AV -> St -> Prop) (Q : Flow -> Shared -> Prop) : Prop :=
  ∀ fl f fr' ρ' σ' h' tk, Kc fl fr' σ' -> Act g ρ' σ' env vars fr' h' -> Stp (Own env) ρ σ s.heap ρ' σ' h' -> FlR ρ' σ' h' fl f -> Q f (Fb.sh s h' tk)
theorem PostS.after {env : Env} {P : Addr -> Prop} {ρ BG : Ad} {σ AG : St} {s : Shared} {hG : Heap} {tk : Nat} {Kc : Fl -> List AV -> St -> Prop} {Q : Flow -> Shared -> Prop} (hP : PostS g env vars ρ σ s Kc Q) (S : Stp P ρ σ s.heap BG AG hG) (hp : ∀ a, P a -> Own env a) : PostS g env vars BG AG (Fb.sh s hG tk) Kc Q :=
  fun fl f fr' ρ' σ' h' tk' hk H S' F => hP fl f fr' ρ' σ' h' tk' hk H ((S.weaken hp).trans S') F
theorem PostS.afterE {env : Env} {ρ BG : Ad} {σ AG : St} {s : Shared} {hG : Heap} {tk : Nat} {Kc : Fl -> List AV -> St -> Prop} {Q : Flow -> Shared -> Prop} (hP : PostS g env vars ρ σ s Kc Q) (S : Stp NoP ρ σ s.heap BG AG hG) : PostS g env vars BG AG (Fb.sh s hG tk) Kc Q :=
  hP.after S fun _ q => q.elim
noncomputable def SndS (prog : Program) (w : World) (g : Heap) (lev : Nat) (vars : List Str) (W : Wp) : Prop :=
  ∀ (m : Nat) (env : Env) (ss : List Stmt) (irs : List IS), dC (chkS m vars env.scope) ss irs = true ->
    ∀ (A : Around) (s : Shared) (ρ : Ad) (σ : St) (fr : List AV) (Kc : Fl -> List AV -> St -> Prop) (Q : Flow -> Shared -> Prop) (E : Value -> Shared -> Prop), Bud lev A -> Act g ρ σ env vars fr s.heap -> W.s irs fr σ Kc -> PostS g env vars ρ σ s Kc Q ->
      wpN (model prog w) A (execs ss env) Q E s
noncomputable def NodeS (prog : Program) (w : World) (g : Heap) (lev : Nat) (vars : List Str) (W : Wp) (env : Env) (st : Stmt) (ir : IS) : Prop :=
    ∀ (A : Around) (s : Shared) (ρ : Ad) (σ : St) (fr : List AV) (Kc : Fl -> List AV -> St -> Prop) (Q : Flow -> Shared -> Prop) (E : Value -> Shared -> Prop), Bud lev A -> Act g ρ σ env vars fr s.heap -> wpNextS1 W ir fr σ Kc -> PostS g env vars ρ σ s Kc Q ->
      wpN (model prog w) A (exec st env) Q E s
theorem iZ {sc : Scope} {i : Nat} {x : Str} (h : stAt vars sc i x = true) : vars[i]? = some x /\ (sc.names.lookup x = some .local \/ sc.names.lookup x = some .cell) /\ cK x = true := by
  refine bcn fun nG => ?_; obtain ⟨h, h3⟩ := an h
  obtain ⟨h1, h2⟩ := an h
  refine nG ?_; refine ⟨?_, ?_, h3⟩
  . induction hq : vars[i]? using Option.casesOn with
    | none => rw [hq] at h1; exact ff h1
    | some y => rw [hq] at h1; rw [eq_of_beq h1]
  . have := h2
    induction hq : sc.names.lookup x using Option.casesOn with
    | none => rw [hq] at this; exact ff this
    | some k => rw [hq] at this; induction k using NameKind.casesOn <;> first | exact .inl rfl | exact .inr rfl | cases this
theorem dP {v : Expr} {t : Option Expr} {l : Nat} {env : Env} (h : bV v = true) : swapsWith v t l env = pure false := by
  cases v <;> first | rfl | exact ff h
theorem notInter {env : Env} (h : EnvOk env) : interactive env = false := by
  unfold interactive; rw [h.fn]; rfl
theorem stmts_sound (nd : vars.Nodup) (hS : SndS prog w g lev vars W) (hN : ∀ (m : Nat) (env : Env) (st : Stmt) (ir : IS), chkS m vars env.scope st ir = true -> NodeS prog w g lev vars W env st ir) :
    ∀ (m : Nat) (env : Env) (ss : List Stmt) (irs : List IS), dC (chkS m vars env.scope) ss irs = true ->
    ∀ (A : Around) (s : Shared) (ρ : Ad) (σ : St) (fr : List AV) (Kc : Fl -> List AV -> St -> Prop) (Q : Flow -> Shared -> Prop) (E : Value -> Shared -> Prop), Bud lev A -> Act g ρ σ env vars fr s.heap -> wpNextS W irs fr σ Kc -> PostS g env vars ρ σ s Kc Q ->
      wpN (model prog w) A (execs ss env) Q E s := by
  intro m env ss irs hc A s ρ σ fr Kc Q E hB H hw hP
  induction ss using List.casesOn with
  | nil =>
    induction irs using List.casesOn with
    | nil => exact N.eNil (hP .next .next fr ρ σ s.heap s.toks hw H (Stp.refl ..) .next)
    | cons _ _ => exact ff hc
  | cons st ss =>
    induction irs using List.casesOn with
    | nil => exact ff hc
    | cons ir irs =>
      have hc := an hc
      refine N.eCons (hN m env st ir hc.1 A s ρ σ fr _ _ E hB H hw ?_)
      intro fl f frH BG AG hG tkG hk HG SG FG
      revert hk
      refine FG.el (fun hk => ?_) (fun hk => hP _ _ frH BG AG hG tkG hk HG SG .cont) fun av v r hk => hP _ _ frH BG AG hG tkG hk HG SG (.ret r)
      exact hS m env ss irs hc.2 A _ BG AG frH Kc Q E hB HG hk (hP.after SG fun _ q => q)
end
end Fb
namespace Fb
section
variable {prog : Program} {w : World} {g : Heap} {lev : Nat} {vars : List Str} {K : Frag} {Γ : Fns} {W : Wp} {env : Env} {m : Nat}
theorem expr_st (hE : SndE prog w g lev vars W) {v : Expr} {e : IE} {pos : Pos} (h1 : bV v = true) (h2 : chkE 40 vars env.scope v e = true) : NodeS prog w g lev vars W env (.Expr v pos) (.expr e) := by
  intro A s ρ σ fr Kc Q E hB H hw hP
  refine N.eExpr (hE 40 env _ _ h2 A s ρ σ fr _ _ E hB H hw ?_) (notInter H.ok) (dP h1)
  intro av u BG AG hG tkG hk DG SG RG
  exact hP .next .next fr BG AG hG tkG hk (H.step DG SG) (SG.weaken fun _ q => q.elim) .next
theorem asg_st (nd : vars.Nodup) (hE : SndE prog w g lev vars W) {x : Str} {px pos : Pos} {v : Expr} {i : Nat} {e : IE} (h1 : bV v = true) (h2 : stAt vars env.scope i x = true) (h3 : chkE 40 vars env.scope v e = true) :
    NodeS prog w g lev vars W env (.Assign [.Name x px] v pos) (.asg i e) := by
  intro A s ρ σ fr Kc Q E hB H hw hP
  have zq0 := iZ h2; have hi := zq0.1; have hk := zq0.2.1; have hn := zq0.2.2; clear zq0
  refine N.eName (hE 40 env _ _ h3 A s ρ σ fr _ _ E hB H hw ?_) (dP h1)
  intro av u BG AG hG tkG hk' DG SG RG
  refine aB (eM (s := (Fb.sh s hG tkG)) (H.step DG SG) hi nd hk RG ?_)
  intro hH tkH HH SH
  exact hP .next .next _ BG AG hH tkH hk' HH ((SG.weaken fun _ q => q.elim).trans SH) .next
theorem sets_st (T : Stat K g) (KF : KFacts K) (hE : SndE prog w g lev vars W) {o' v : Expr} {a : Str} {pa pos : Pos} {k : Sl} {o e : IE} (h1 : bV v = true) (h2 : (a == k.name) = true) (h3 : chkE 40 vars env.scope v e = true) (h4 : chkE 40 vars env.scope o' o = true) :
    NodeS prog w g lev vars W env (.Assign [.Attribute o' a pa] v pos) (.sets k o e) := by
  intro A s ρ σ fr Kc Q E hB H hw hP
  rw [eq_of_beq h2]
  refine N.eAttr (hE 40 env _ _ h3 A s ρ σ fr _ _ E hB H hw ?_) (dP h1)
  intro av u BG AG hG tkG hk DG SG RG
  refine hE 40 env _ _ h4 A _ BG AG fr _ _ E hB (H.step DG SG) hk ?_
  intro bv u' BH AH hH tkH hkG DH SH RH
  refine aB (sets_sound (s := (Fb.sh s hH tkH)) T KF ((H.step DG SG).step DH SH) RH (RG.step SH) hkG ?_)
  intro BW AJ hJ tkJ hkJ HJ SW
  exact hP .next .next fr BW AJ hJ tkJ hkJ HJ (((SG.trans SH).weaken fun _ q => q.elim).trans SW) .next
theorem seti_st (hE : SndE prog w g lev vars W) {o' i' v : Expr} {pa pos : Pos} {o i e : IE} (h1 : bV v = true) (h3 : chkE 40 vars env.scope v e = true) (h4 : chkE 40 vars env.scope o' o = true) (h5 : chkE 40 vars env.scope i' i = true) :
    NodeS prog w g lev vars W env (.Assign [.Subscript o' i' pa] v pos) (.seti o i e) := by
  intro A s ρ σ fr Kc Q E hB H hw hP
  refine N.eSub (hE 40 env _ _ h3 A s ρ σ fr _ _ E hB H hw ?_) (dP h1)
  intro av u BG AG hG tkG hk DG SG RG
  have HG := H.step DG SG
  refine hE 40 env _ _ h4 A _ BG AG fr _ _ E hB HG hk ?_
  intro bv u' BH AH hH tkH hkG DH SH RH
  have HH := HG.step DH SH
  refine hE 40 env _ _ h5 A _ BH AH fr _ _ E hB HH hkG ?_
  intro cv u'' BW AJ hJ tkJ hkJ DJ SW RJ
  have HJ := HH.step DJ SW
  refine aB (seti_sound (s := (Fb.sh s hJ tkJ)) hB DJ (RH.step SW) RJ ((RG.step SH).step SW) hkJ ?_)
  intro AW hW tkW hkH DW SJ
  exact hP .next .next fr BW AW hW tkW hkH (HJ.step DW SJ) ((((SG.trans SH).trans SW).trans SJ).weaken fun _ q => q.elim) .next
theorem ret_st (hE : SndE prog w g lev vars W) {v : Expr} {e : IE} {pos : Pos} (h2 : chkE 40 vars env.scope v e = true) : NodeS prog w g lev vars W env (.Return (some v) pos) (.ret e) := by
  intro A s ρ σ fr Kc Q E hB H hw hP
  refine N.eRet (hE 40 env _ _ h2 A s ρ σ fr _ _ E hB H hw ?_)
  intro av u BG AG hG tkG hk DG SG RG
  exact hP (.ret av) (.ret u) fr BG AG hG tkG hk (H.step DG SG) (SG.weaken fun _ q => q.elim) (.ret RG)
theorem retn_st {pos : Pos} : NodeS prog w g lev vars W env (.Return none pos) .retn := by
  intro A s ρ σ fr Kc Q E hB H hw hP
  exact aB (wpAny_Return_none (hP (.ret .none) (.ret .none) fr ρ σ s.heap s.toks hw H (Stp.refl ..) (.ret .none)))
theorem cont_st {pos : Pos} : NodeS prog w g lev vars W env (.Continue pos) .cont := by
  intro A s ρ σ fr Kc Q E hB H hw hP
  exact aB (wpAny_Continue (hP .cont .cont fr ρ σ s.heap s.toks hw H (Stp.refl ..) .cont))
theorem ifs_st (hT : SndT prog w g lev vars W) (hS : SndS prog w g lev vars W) {t' : Expr} {a' b' : List Stmt} {pos : Pos} {t : IE} {a b : List IS} (h1 : chkE 40 vars env.scope t' t = true) (h2 : dC (chkS m vars env.scope) a' a = true) (h3 : dC (chkS m vars env.scope) b' b = true) :
    NodeS prog w g lev vars W env (.If t' a' b' pos) (.ifs t a b) := by
  intro A s ρ σ fr Kc Q E hB H hw hP
  refine N.eIf (hT 40 env _ _ h1 A s ρ σ fr _ _ E hB H hw ?_)
  intro c BG AG hG tkG hk DG SG
  induction c using Bool.casesOn with
  | true =>
    rw [if_pos rfl]
    exact hS m env _ _ h2 A _ BG AG fr _ _ E hB (H.step DG SG) (hk.1 rfl) (hP.afterE SG)
  | false =>
    rw [if_neg Bool.false_ne_true]
    exact hS m env _ _ h3 A _ BG AG fr _ _ E hB (H.step DG SG) (hk.2 rfl) (hP.afterE SG)
theorem iop_sound {op : BOp} {x y : AV} {v u : Value} {A : Around} {E : Value -> Shared -> Prop} {s : Shared} {ρ : Ad} {σ : St} {Kc : AV -> St -> Prop} {Q : Value -> Shared -> Prop} (D : Dyn g ρ σ s.heap) (rx : RV ρ σ s.heap x v) (ry : RV ρ σ s.heap y u) (hw : wpAug op x y σ Kc) (hP : PostE g ρ σ s Kc Q) :
    wpAny (model prog w) A (inplaceOp (bopOf op) v u) Q E s := by
  refine jC hw rx ry fun x y t t' hk => ?_
  induction op using BOp.casesOn with
  | add => exact iadd_int (hP _ _ ρ σ s.heap _ hk D (Stp.refl ..) (.int _ _))
  | sub => exact isub_int (hP _ _ ρ σ s.heap _ hk D (Stp.refl ..) (.int _ _))
  | mul => exact imul_int (hP _ _ ρ σ s.heap _ hk.2 D (Stp.refl ..) (.int _ _))
  | band => exact iand_int (hP _ _ ρ σ s.heap _ hk D (Stp.refl ..) (.int _ _))
  | _ => exact False.elim hk
set_option tactic.hygienic true in
theorem aug_st (nd : vars.Nodup) (hE : SndE prog w g lev vars W) {x : Str} {px pos : Pos} {op' : Operator} {v : Expr} {i : Nat} {op : BOp} {e : IE} (h1 : stAt vars env.scope i x = true) (h2 : isBop op' op = true) (h3 : chkE 40 vars env.scope v e = true) :
    NodeS prog w g lev vars W env (.AugAssign (.Name x px) op' v pos) (.aug i op e) := by
  intro A s ρ σ fr Kc Q E hB H hw hP
  refine bcn fun nG => ?_; obtain ⟨hi, hk, hn⟩ := iZ h1
  refine nG ?_; rw [nW h2]
  change (match fr[i]? with | some .unb => False | some x => W.e e fr σ fun v AG => wpAug op x v AG fun r AH => Kc .next (fr.set i r) AH | none => False) at hw
  split at hw
  . exact hw.elim
  . rename_i y hu hf
    refine N.eAug (aB (load_loc H hi (by rcases hk with q | q; exact .inl q; exact .inr (.inl q)) hf (fun q => hu (by rw [q])) (bF hn).2 fun u r => ?_))
    refine hE 40 env _ _ h3 A s ρ σ fr _ _ E hB H hw ?_
    intro bv u' BH AH hH tkH hkG DH SH RH
    refine aB (iop_sound (s := (Fb.sh s hH tkH)) DH (r.step SH) RH hkG ?_)
    intro cv u'' BW AJ hJ tkJ hkJ DJ SW RJ
    refine aB (eM (s := (Fb.sh s hJ tkJ)) ((H.step DH SH).step DJ SW) hi nd hk RJ ?_)
    intro hW tkW HW SJ
    exact hP .next .next _ BW AJ hW tkW hkJ HW (((SH.trans SW).weaken fun _ q => q.elim).trans SJ) .next
  . exact hw.elim
theorem whl_st (hT : SndT prog w g lev vars W) (hS : SndS prog w g lev vars W) {t' : Expr} {b' : List Stmt} {pos : Pos} {t : IE} {b : List IS} (h1 : chkE 40 vars env.scope t' t = true) (h2 : dC (chkS m vars env.scope) b' b = true) :
    NodeS prog w g lev vars W env (.While t' b' [] pos) (.whl t b) := by
  intro A s ρ σ fr Kc Q E hB H hw hP
  obtain ⟨n, hw⟩ := hw
  refine N.eWhile (N.whileN (fun n s' => ∃ ρ' σ' fr' h' tk, s' = (Fb.sh s h' tk) /\ Act g ρ' σ' env vars fr' h' /\ Stp (Own env) ρ σ s.heap ρ' σ' h' /\ gD W t b n fr' σ' Kc) ?_ n ⟨ρ, σ, fr, s.heap, s.toks, rfl, H, Stp.refl .., hw⟩)
  rintro n s' ⟨ρ', σ', fr', h', tk, rfl, H', S', hw'⟩
  induction n using Nat.casesOn with
  | zero => exact hw'.elim
  | succ n =>
    refine hT 40 env _ _ h1 A (Fb.sh s h' tk) ρ' σ' fr' _ _ _ hB H' hw' ?_
    intro c BG AG hG tkG hk DG SG
    have S1 : Stp (Own env) ρ σ s.heap BG AG hG := S'.trans (SG.weaken fun _ q => q.elim)
    induction c using Bool.casesOn with
    | false =>
      rw [if_neg Bool.false_ne_true]
      exact (hP .next .next fr' BG AG hG tkG (hk.2 rfl) (H'.step DG SG) S1 .next)
    | true =>
      rw [if_pos rfl]
      refine hS m env _ _ h2 A (Fb.sh s hG tkG) BG AG fr' _ _ _ hB (H'.step DG SG) (hk.1 rfl) ?_
      intro fl f frG BH AH hH tkH hkG HH SH FH
      revert hkG
      exact FH.el (fun hkG => ⟨n, Nat.lt_succ_self n, BH, AH, frG, hH, tkH, rfl, HH, S1.trans SH, hkG⟩) (fun hkG => ⟨n, Nat.lt_succ_self n, BH, AH, frG, hH, tkH, rfl, HH, S1.trans SH, hkG⟩) fun av v r hkG => hP _ _ frG BH AH hH tkH hkG HH (S1.trans SH) (.ret r)
end
end Fb
set_option genInjectivity false
set_option genCtorIdx false
set_option genSizeOf false
namespace Fb
section
variable {prog : Program} {w : World} {g : Heap} {lev : Nat} {vars : List Str} {K : Frag} {Γ : Fns} {W : Wp} {env : Env} {m : Nat}
theorem Act.skip {ρ : Ad} {σ : St} {fr : List AV} {h h' : Heap} {x : Addr} (H : Act g ρ σ env vars fr h) (k : ∀ a o, a ≠ x -> h.get? a = some o -> h'.get? a = some o) (hM : x ∉ ρ.M) (hO : ¬ Own env x) (hS : ∀ o, h.get? x = some o -> ¬ Seqy o) (hg : g.get? x = none) :
    Act g ρ σ env vars fr h' /\ Stp (fun a => a = x) ρ σ h ρ σ h' := by
  have hS' : ∀ a o, a = x -> h.get? a = some o -> ¬ Seqy o := by rintro a o rfl e; exact hS o e
  have zq0 := H.dyn.other (P := fun a => a = x) k (fun a ha q => hM (q ▸ ha)) hS'; have D := zq0.1; have S := zq0.2; clear zq0
  refine bcn fun nG => ?_; obtain ⟨m, o, es, ep, zq0⟩ := H.ns; have ho := zq0.1; have hd := zq0.2.1; have hk := zq0.2.2.1; have hm := zq0.2.2.2
  have hL : env.locals ≠ x := fun q => hO (q ▸ .inl rfl)
  have hC : ∀ y c, env.cells.lookup y = some c -> c ≠ x := fun y c hc q => hO (q ▸ .inr ⟨y, hc⟩)
  refine nG ?_; refine ⟨⟨D, S.stays H.st H.dyn.off (fun a q => q ▸ hg), H.ok, ⟨m, o, es, ep, k _ _ hL ho, hd, hk, hm⟩, fun i y av hi hvis hf hu => ?_, H.offL, fun y c hc => ?_, H.cinj, H.cellOf⟩, S⟩
  . obtain ⟨v, zq0⟩ := H.loc i y av hi hvis hf hu; have hv := zq0.1; have hr := zq0.2
    refine ⟨v, ?_, RV.mono S hS' hr⟩
    rcases hv with ⟨k1, m', ⟨o', es', ep', ho', r'⟩, hm'⟩ | ⟨k1, c, hc, oc, ho', hd'⟩
    . exact .inl ⟨k1, m', ⟨o', es', ep', k _ _ hL ho', r'⟩, hm'⟩
    . exact .inr ⟨k1, c, hc, oc, k _ _ (hC y c hc) ho', hd'⟩
  . have zq0 := H.cells y c hc; obtain ⟨v, oc, zq1⟩ := zq0.1; have ho' := zq1.1; have hd' := zq1.2; have h2 := zq0.2.1; have h3 := zq0.2.2; clear zq0
    exact ⟨⟨v, oc, k _ _ (hC y c hc) ho', hd'⟩, h2, h3⟩
theorem Stp.skip {P : Addr -> Prop} {ρ ρ' : Ad} {σ σ' : St} {h₀ h h' : Heap} {x : Addr} (S : Stp P ρ σ h₀ ρ' σ' h) (k : ∀ a o, a ≠ x -> h.get? a = some o -> h'.get? a = some o) (hx : h₀.get? x = none) : Stp P ρ σ h₀ ρ' σ' h' :=
  { S with keep := fun a o ha hn e => ⟨k a o (fun q => (by rw [q, hx] at e; exact nn e)) (S.keep a o ha hn e).1, (S.keep a o ha hn e).2⟩ }
theorem Act.ownS {ρ : Ad} {σ : St} {fr : List AV} {h : Heap} (H : Act g ρ σ env vars fr h) : ∀ a o, Own env a -> h.get? a = some o -> ¬ Seqy o := by
  refine bcn fun nG => ?_; obtain ⟨m, oL, esL, epL, zq0⟩ := H.ns; have hoL := zq0.1; have hdL := zq0.2.1
  refine nG ?_; intro a o ha ho hs
  rcases ha with rfl | ⟨y, hy⟩
  . rw [hoL] at ho; (have e9 := Option.some.inj ho; clear ho; subst e9)
    rcases hs with ⟨_, _, e⟩ | ⟨_, _, e⟩ <;> rw [hdL] at e <;> exact nomatch e
  . have zq0 := H.cells y a hy; obtain ⟨_, oc, zq1⟩ := zq0.1; have hoc := zq1.1; have hdc := zq1.2; clear zq0
    rw [hoc] at ho; (have e9 := Option.some.inj ho; clear ho; subst e9)
    rcases hs with ⟨_, _, e⟩ | ⟨_, _, e⟩ <;> rw [hdc] at e <;> exact nomatch e
theorem Act.own_at {ρ : Ad} {σ : St} {fr : List AV} {h : Heap} {a : Addr} (H : Act g ρ σ env vars fr h) (ha : Own env a) : ∃ o, h.get? a = some o := by
  rcases ha with rfl | ⟨y, hy⟩
  . obtain ⟨m, oL, esL, epL, zq0⟩ := H.ns; have hoL := zq0.1; exact ⟨_, hoL⟩
  . have zq0 := H.cells y a hy; obtain ⟨_, oc, zq1⟩ := zq0.1; have hoc := zq1.1; have hdc := zq1.2; clear zq0; exact ⟨_, hoc⟩
structure Iter (prog : Program) (w : World) (g : Heap) (env : Env) (A : Around) (it : Addr) (P : St -> Prop) (I : Heap -> Ad -> St -> List AV -> Prop) : Prop where
  ns : ∀ h ρ σ vs, I h ρ σ vs -> ∃ o, h.get? it = some o /\ ¬ Seqy o
  next : ∀ (s : Shared) ρ σ v vs (Q : Option Value -> Shared -> Prop) (E : Value -> Shared -> Prop), Dyn g ρ σ s.heap -> it ∉ ρ.M -> P σ -> I s.heap ρ σ (v :: vs) -> (∀ u h' tk, I h' ρ σ vs -> Heap.SameBut it s.heap h' -> RV ρ σ s.heap v u -> Q (some u) (Fb.sh s h' tk)) -> wpAny (model prog w) A (pyNext (.ref it)) Q E s
  last : ∀ (s : Shared) ρ σ (Q : Option Value -> Shared -> Prop) (E : Value -> Shared -> Prop), Dyn g ρ σ s.heap -> it ∉ ρ.M -> P σ -> I s.heap ρ σ [] -> (∀ h' tk, Heap.ExtBut it s.heap h' -> Q none (Fb.sh s h' tk)) -> wpAny (model prog w) A (pyNext (.ref it)) Q E s
  step : ∀ h ρ σ h' ρ' σ' vs, I h ρ σ vs -> Stp (Own env) ρ σ h ρ' σ' h' -> Dyn g ρ' σ' h' -> (∀ a o, Own env a -> h.get? a = some o -> ¬ Seqy o) -> it ∉ ρ.M -> ¬ Own env it -> P σ -> P σ' -> I h' ρ' σ' vs
theorem for_go (nd : vars.Nodup) (hS : SndS prog w g lev vars W) {x : Str} {px : Pos} {b' : List Stmt} {b : List IS} {i : Nat} {A : Around} {s : Shared} {ρ BG : Ad} {σ AG : St} {fr : List AV} {Kc : Fl -> List AV -> St -> Prop} {Q : Flow -> Shared -> Prop} {it : Addr} {P : St -> Prop} {I : Heap -> Ad -> St -> List AV -> Prop} {F : List AV -> List AV -> St -> Prop} {vs : List AV} {hG : Heap} {tkG : Nat}
    (h1 : stAt vars env.scope i x = true) (h2 : dC (chkS m vars env.scope) b' b = true) (hB : Bud lev A) (J : Iter prog w g env A it P I)
    (hF0 : ∀ fr' σ', F [] fr' σ' -> Kc .next fr' σ')
    (hF1 : ∀ v vs fr' σ', F (v :: vs) fr' σ' -> ∃ K' : Fl -> List AV -> St -> Prop, W.s b (fr'.set i v) σ' K' /\ (∀ x frG AH, K' (.ret x) frG AH -> Kc (.ret x) frG AH) /\ (∀ frG AH, K' .next frG AH -> P AH /\ F vs frG AH) /\ ∀ frG AH, K' .cont frG AH -> P AH /\ F vs frG AH)
    (hnew : s.heap.get? it = none) (hO : ¬ Own env it) (hg : g.get? it = none) (hM : it ∉ BG.M)
    (H : Act g BG AG env vars fr hG) (S : Stp (Own env) ρ σ s.heap BG AG hG) (hI : I hG BG AG vs) (hPA : P AG) (hF : F vs fr AG) (hP : PostS g env vars ρ σ s Kc Q) :
    bQ (model prog w) A (.forLoop (.Name x px) (.ref it) b' [] env) (fun r s' => match r with | .ok f => Q f s' | .error _ => False) (Fb.sh s hG tkG) := by
  have zq0 := iZ h1; have hi := zq0.1; have hk := zq0.2.1; have hn := zq0.2.2; clear zq0
  refine N.forN (fun n s' => ∃ ρ' σ' fr' h' tk vs, n = vs.length /\ s' = (Fb.sh s h' tk) /\ Act g ρ' σ' env vars fr' h' /\ Stp (Own env) ρ σ s.heap ρ' σ' h' /\ it ∉ ρ'.M /\ P σ' /\ I h' ρ' σ' vs /\ F vs fr' σ') ?_ vs.length ⟨BG, AG, fr, hG, tkG, vs, rfl, rfl, H, S, hM, hPA, hI, hF⟩ (fun _ => rfl)
  rintro n s' ⟨ρ', σ', fr', h', tk, vs, rfl, rfl, H', S', hM', hP', hI', hF'⟩
  obtain ⟨oi, zq0⟩ := J.ns _ _ _ _ hI'; have hoi := zq0.1; have hos := zq0.2
  have hSo : ∀ o, h'.get? it = some o -> ¬ Seqy o := by intro o e; rw [hoi] at e; (have e9 := Option.some.inj e; clear e; subst e9); exact hos
  induction vs using List.casesOn with
  | nil =>
    refine aB (J.last (Fb.sh s h' tk) ρ' σ' _ _ H'.dyn hM' hP' hI' ?_)
    intro hH tkH eG
    have zq0 := H'.skip (fun a o ha e => eG a o ha e) hM' hO hSo hg; have HH := zq0.1; clear zq0
    exact (hP .next .next fr' ρ' σ' hH tkH (hF0 _ _ hF') HH (S'.skip (fun a o ha e => eG a o ha e) hnew) .next)
  | cons v vs =>
    obtain ⟨K', zq0⟩ := hF1 v vs fr' σ' hF'; have w1 := zq0.1; have w2 := zq0.2.1; have w3 := zq0.2.2.1; have w4 := zq0.2.2.2
    refine aB (J.next (Fb.sh s h' tk) ρ' σ' v vs _ _ H'.dyn hM' hP' hI' ?_)
    intro u hH tkH iH eG rH
    have kJ : ∀ a o, a ≠ it -> h'.get? a = some o -> hH.get? a = some o := fun a o ha e => (eG.2 a ha).trans e
    have zq0 := H'.skip kJ hM' hO hSo hg; have HH := zq0.1; have TG := zq0.2; clear zq0
    have SH := S'.skip kJ hnew
    have rG' : RV ρ' σ' hH v u := RV.mono TG (by rintro a o rfl e; exact hSo o e) rH
    refine aB (assign_Name (eM (s := (Fb.sh s hH tkH)) HH hi nd hk rG' ?_))
    intro hJ tkJ HJ SW
    have iG := J.step _ _ _ _ _ _ _ iH SW HJ.dyn HH.ownS hM' hO hP' hP'
    refine hS m env _ _ h2 A (Fb.sh s hJ tkJ) ρ' σ' _ _ _ _ hB HJ w1 ?_
    intro fl f frJ BJ AW hW tkW hkH HW SJ FW
    obtain ⟨o3, zq0⟩ := J.ns _ _ _ _ iG; have ho3 := zq0.1
    have hMG : it ∉ BJ.M := (SJ.keep it o3 hM' hO ho3).2
    have goon : ∀ (q : P AW /\ F vs frJ AW), ∃ m', m' < (v :: vs).length /\ ∃ B'' A'' fr'' h'' tk'' vs', m' = vs'.length /\ ((Fb.sh s hW tkW) : Shared) = (Fb.sh s h'' tk'') /\ Act g B'' A'' env vars fr'' h'' /\ Stp (Own env) ρ σ s.heap B'' A'' h'' /\ it ∉ B''.M /\ P A'' /\ I h'' B'' A'' vs' /\ F vs' fr'' A'' := by
      intro q
      exact ⟨vs.length, Nat.lt_succ_self _, BJ, AW, frJ, hW, tkW, vs, rfl, rfl, HW, (SH.trans SW).trans SJ, hMG, q.1, J.step _ _ _ _ _ _ _ iG SJ HW.dyn HJ.ownS hM' hO hP' q.1, q.2⟩
    revert hkH
    exact FW.el (fun hkH => goon (w3 _ _ hkH)) (fun hkH => goon (w4 _ _ hkH)) fun av v r hkH => hP _ _ frJ BJ AW hW tkW (w2 _ _ _ hkH) HW ((SH.trans SW).trans SJ) (.ret r)
end
end Fb
namespace Fb
section
variable {prog : Program} {w : World} {g : Heap} {lev : Nat} {vars : List Str} {K : Frag} {Γ : Fns} {W : Wp} {env : Env} {m : Nat} {A : Around}
theorem Stp.but {ρ : Ad} {σ : St} {h h' : Heap} {x : Addr} (k : ∀ a o, a ≠ x -> h.get? a = some o -> h'.get? a = some o) : Stp (fun a => a = x) ρ σ h ρ σ h' :=
  ⟨rfl, rfl, rfl, rfl, rfl, rfl, ⟨Nat.le_refl _, fun _ => rfl⟩, ⟨Nat.le_refl _, fun _ _ e => e⟩, ⟨Nat.le_refl _, fun _ _ e => e⟩, ⟨Nat.le_refl _, fun _ _ e => e⟩, fun a o mm np e => ⟨k a o np e, mm⟩⟩
theorem rvs_ints {ρ : Ad} {σ : St} {h : Heap} : ∀ {vs : List Value} {l : List Int}, IntsAre vs l -> RVs ρ σ h (l.map .int) vs
  | _, _, .nil => .nil
  | _, _, .cons n t a => .cons (.int n t) (rvs_ints a)
theorem iter_list (hA : A.handled = none) (it a : Addr) (items : Array Value) (n : Nat) :
    Iter prog w g env A it (fun _ => True) (fun h ρ σ vs => ∃ i, h.IsListIter it a i /\ Fz ρ a /\ h.get? a = some (lob items n) /\ RVs ρ σ h vs (items.toList.drop i)) := by
  have ne : ∀ {h : Heap} {i : Nat}, h.IsListIter it a i -> h.get? a = some (lob items n) -> a ≠ it := by
    rintro h i ⟨o, ho, hc, hd⟩ e rfl
    rw [e] at ho; (have e9 := Option.some.inj ho; clear ho; subst e9); cases hd
  have ns : ∀ {h : Heap} {i : Nat} {o : Obj}, h.IsListIter it a i -> h.get? it = some o -> ¬ Seqy o := by
    rintro h i o ⟨o', ho, hc, hd⟩ e hs
    rw [e] at ho; (have e9 := Option.some.inj ho; clear ho; subst e9)
    rcases hs with ⟨_, _, q⟩ | ⟨_, _, q⟩ <;> rw [hd] at q <;> exact nomatch q
  refine ⟨?_, ?_, ?_, ?_⟩
  . rintro h ρ σ vs ⟨i, q, _⟩
    refine bcn fun nG => ?_; obtain ⟨o, ho, _⟩ := id q
    refine nG ?_; exact ⟨o, ho, ns q ho⟩
  . rintro s ρ σ v vs Q E D hM _ ⟨i, q, f, e, r⟩ hQ
    induction hd : items.toList.drop i using List.casesOn with
    | nil => rw [hd] at r; exact nomatch r
    | cons u rest =>
      rw [hd] at r
      have hlt : i < items.toList.length := by
        rcases Nat.lt_or_ge i items.toList.length with q | q
        . exact q
        . rw [List.drop_eq_nil_of_le q] at hd; exact nomatch hd
      have hcons := List.drop_eq_getElem_cons hlt
      rw [hd] at hcons
      injection hcons with h1 h2
      cases r with
      | cons r rs =>
        refine wpAny_pyNext_list_item q (eE e) (x := u) ?_ ?_
        . rw [h1]; simp [show i < items.size by simpa using hlt]
        . intro h' q' sb
          have kk : ∀ a o, a ≠ it -> s.heap.get? a = some o -> h'.get? a = some o := fun a o ha e => (sb.2 a ha).trans e
          refine hQ u h' s.toks ⟨i + 1, q', f, kk _ _ (ne q e) e, ?_⟩ sb r
          rw [<- h2]
          exact RVs.mono (Stp.but kk) (by rintro x o rfl eo; exact ns q eo) rs
  . rintro s ρ σ Q E D hM _ ⟨i, q, f, e, r⟩ hQ
    refine wpAny_pyNext_list_end hA q (eE e) ?_ fun h' he => hQ h' s.toks he
    induction hd : items.toList.drop i using List.casesOn with
    | cons u rest => rw [hd] at r; exact nomatch r
    | nil =>
      rw [List.drop_eq_nil_iff] at hd
      exact Array.getElem?_eq_none (by simpa using hd)
  . rintro h ρ σ h' ρ' σ' vs ⟨i, q, f, e, r⟩ S D' hS hM hO _ _
    refine bcn fun nG => ?_; obtain ⟨f', e'⟩ := f.mono S hS e (.inl ⟨_, _, rfl⟩)
    obtain ⟨o, ho, q2, q3⟩ := q
    refine nG ?_; exact ⟨i, ⟨o, (S.keep _ _ hM hO ho).1, q2, q3⟩, f', e', RVs.mono S hS r⟩
theorem range_vs (x step : Int) (left : Int) (h : 0 < left) : (List.range left.toNat).map (fun k : Nat => AV.int (x + (k : Int) * step)) = .int x :: (List.range (left - 1).toNat).map (fun k : Nat => AV.int (x + step + (k : Int) * step)) := by
  refine bcn fun nG => ?_; obtain ⟨n, hn⟩ : ∃ n : Nat, left.toNat = n + 1 := ⟨left.toNat - 1, by lia⟩
  have h2 : (left - 1).toNat = n := by lia
  refine nG ?_; rw [hn, h2, List.range_succ_eq_map, List.map_cons, List.map_map]
  congr 1
  . simp
  . apply List.map_congr_left
    intro k _
    refine congrArg AV.int ?_
    simp only [Nat.succ_eq_add_one, Int.natCast_add, Int.natCast_one]
    rw [Int.add_mul, Int.one_mul]; lia
theorem iter_range (hA : A.handled = none) (it : Addr) (step : Int) :
    Iter prog w g env A it (fun _ => True) (fun h _ _ vs => ∃ x left, IsRangeIter h it x left step /\ 0 <= left /\ vs = (List.range left.toNat).map (fun k : Nat => AV.int (x + (k : Int) * step))) := by
  refine ⟨?_, ?_, ?_, ?_⟩
  . rintro h ρ σ vs ⟨x, left, q, _⟩
    refine ⟨_, q, ?_⟩
    rintro (⟨_, _, e⟩ | ⟨_, _, e⟩) <;> cases e
  . rintro s ρ σ v vs Q E D hM _ ⟨x, left, q, h0, e⟩ hQ
    have hl : 0 < left := by
      rcases Int.lt_or_eq_of_le h0 with q | q
      . exact q
      . subst q; cases e
    rw [range_vs x step left hl] at e
    cases e
    exact wpAny_pyNext_range_item q hl fun h' q' sb => hQ _ h' _ ⟨_, _, q', by (clear q' hQ h0; lia), rfl⟩ sb (.int _ _)
  . rintro s ρ σ Q E D hM _ ⟨x, left, q, h0, e⟩ hQ
    have hl : left <= 0 := by
      rcases Int.lt_or_eq_of_le h0 with q | q
      . rw [range_vs x step left q] at e; cases e
      . (rw [q]; lia)
    exact wpAny_pyNext_range_end hA q hl fun h' he => hQ h' s.toks he
  . rintro h ρ σ h' ρ' σ' vs ⟨x, left, q, h0, e⟩ S D' hS hM hO _ _
    exact ⟨x, left, (S.keep _ _ hM hO q).1, h0, e⟩
theorem iter_rev (hA : A.handled = none) (it a : Addr) (l : List Int) (c : Nat) :
    Iter prog w g env A it (fun σ => σ.cvv = c /\ σ.cv = some l) (fun h ρ _ vs => ∃ k : Nat, h.IsRevIter it a ((k : Int) - 1) /\ ρ.cv = some a /\ k <= l.length /\ vs = ((l.map AV.int).take k).reverse) := by
  have ns : ∀ {h : Heap} {i : Int} {o : Obj}, h.IsRevIter it a i -> h.get? it = some o -> ¬ Seqy o := by
    rintro h i o ⟨o', ho, hc, hd⟩ e hs
    rw [e] at ho; (have e9 := Option.some.inj ho; clear ho; subst e9)
    rcases hs with ⟨_, _, q⟩ | ⟨_, _, q⟩ <;> rw [hd] at q <;> exact nomatch q
  refine ⟨?_, ?_, ?_, ?_⟩
  . rintro h ρ σ vs ⟨i, q, _⟩
    refine bcn fun nG => ?_; obtain ⟨o, ho, _⟩ := id q
    refine nG ?_; exact ⟨o, ho, ns q ho⟩
  . rintro s ρ σ v vs Q E D hM ⟨hc, hcv⟩ ⟨k, q, e, hk, ev⟩ hQ
    have hL := D.cv
    rw [hcv, e] at hL
    refine bcn fun nG => ?_; obtain ⟨items, hl, hi⟩ := hL
    refine nG ?_; induction k using Nat.casesOn with
    | zero => exact nomatch ev
    | succ k =>
      have hkl : k < l.length := by assumption
      rw [List.take_succ, List.reverse_append] at ev
      rw [List.getElem?_map, List.getElem?_eq_getElem hkl] at ev
      injection ev with ev1 ev2
      refine bcn fun nG => ?_; obtain ⟨t, ht⟩ := kY hi k hkl
      have e1 : (((k + 1 : Nat) : Int) - 1) = (k : Int) := by simp
      refine nG ?_; rw [e1] at q
      refine wpAny_pyNext_rev_item q hl (x := .int (l.getD k 0) t) (by simpa using ht) fun h' q' sb => hQ _ h' s.toks ⟨k, q', e, by (exact Nat.le_of_lt (by assumption)), ev2⟩ sb ?_
      rw [ev1, List.getD_eq_getElem?_getD, List.getElem?_eq_getElem hkl]
      exact .int _ _
  . rintro s ρ σ Q E D hM _ ⟨k, q, e, hk, ev⟩ hQ
    have h0 : k = 0 := by
      have := congrArg List.length ev
      simp only [List.length_nil, List.length_reverse, List.length_take, List.length_map] at this
      lia
    subst h0
    exact wpAny_pyNext_rev_end hA q fun h' he => hQ h' s.toks he
  . rintro h ρ σ h' ρ' σ' vs ⟨k, q, e, hk, ev⟩ S D' hS hM hO ⟨p1, p2⟩ ⟨p3, p4⟩
    refine bcn fun nG => ?_; obtain ⟨o, ho, q2, q3⟩ := q
    refine nG ?_; refine ⟨k, ⟨o, (S.keep _ _ hM hO ho).1, q2, q3⟩, ?_, hk, ev⟩
    have hL := D'.cv
    rw [p4] at hL
    induction hc : ρ'.cv using Option.casesOn with
    | none => rw [hc] at hL; exact hL.elim
    | some y =>
      have := S.cvv.2 (by lia) y hc
      rw [e] at this; exact this.symm
end
end Fb
namespace Fb
section
variable {prog : Program} {w : World} {g : Heap} {lev : Nat} {vars : List Str} {K : Frag} {Γ : Fns} {W : Wp} {env : Env} {m : Nat}
theorem Act.new {ρ : Ad} {σ : St} {fr : List AV} {h : Heap} (H : Act g ρ σ env vars fr h) : h.get? h.objs.size = none /\ ¬ Own env h.objs.size /\ g.get? h.objs.size = none /\ h.objs.size ∉ ρ.M := by
  have nn : ∀ o, h.get? h.objs.size = some o -> False := fun o e => absurd (Heap.lt_size e) (Nat.lt_irrefl _)
  refine ⟨?_, fun q => ?_, ?_, (H.dyn.fresh (Nat.le_refl _)).1⟩
  . induction e : h.get? h.objs.size using Option.casesOn with
    | none => rfl
    | some o => exact (nn o e).elim
  . obtain ⟨o, e⟩ := H.own_at q; exact nn o e
  . induction e : g.get? h.objs.size using Option.casesOn with
    | none => rfl
    | some o => exact (nn o (H.st _ _ e)).elim
theorem Act.push {ρ : Ad} {σ : St} {fr : List AV} {h : Heap} (H : Act g ρ σ env vars fr h) (o : Obj) : Act g ρ σ env vars fr (h.push o) := H.step (H.dyn.grow (Grows.push h o)) (Grows.push h o).stp
theorem folded {it : Expr} (h : plainIter it = true) : ∀ x : Value, foldedSetIterable it env x = pure x := by
  intro x
  cases it <;> first | rfl | exact ff h
theorem wpFor_go {i : Nat} {b : List IS} {Kc : Fl -> List AV -> St -> Prop} {v : AV} {vs : List AV} {fr' : List AV} {σ' : St} (h : nO W i b (v :: vs) fr' σ' Kc) :
    ∃ K' : Fl -> List AV -> St -> Prop, W.s b (fr'.set i v) σ' K' /\ (∀ x frG AH, K' (.ret x) frG AH -> Kc (.ret x) frG AH) /\ (∀ frG AH, K' .next frG AH -> True /\ nO W i b vs frG AH Kc) /\ ∀ frG AH, K' .cont frG AH -> True /\ nO W i b vs frG AH Kc :=
  ⟨_, h, fun _ _ _ q => q, fun _ _ q => ⟨trivial, q⟩, fun _ _ q => ⟨trivial, q⟩⟩
theorem wpForP_go {P : St -> Prop} {i : Nat} {b : List IS} {Kc : Fl -> List AV -> St -> Prop} {v : AV} {vs : List AV} {fr' : List AV} {σ' : St} (h : mE W P i b (v :: vs) fr' σ' Kc) :
    ∃ K' : Fl -> List AV -> St -> Prop, W.s b (fr'.set i v) σ' K' /\ (∀ x frG AH, K' (.ret x) frG AH -> Kc (.ret x) frG AH) /\ (∀ frG AH, K' .next frG AH -> P AH /\ mE W P i b vs frG AH Kc) /\ ∀ frG AH, K' .cont frG AH -> P AH /\ mE W P i b vs frG AH Kc :=
  ⟨_, h, fun _ _ _ q => q, fun _ _ q => q, fun _ _ q => q⟩
theorem items_rv {ρ : Ad} {σ : St} {hp : Heap} {av : AV} {v : Value} {f : List AV -> Prop} (h : aItems av f) : RV ρ σ hp av v -> ∃ vs a items n, f vs /\ v = .ref a /\ Fz ρ a /\ hp.get? a = some (lob items n) /\ RVs ρ σ hp vs items.toList :=
  aItems_el (P := fun av => RV ρ σ hp av v -> ∃ vs a items n, f vs /\ v = .ref a /\ Fz ρ a /\ hp.get? a = some (lob items n) /\ RVs ρ σ hp vs items.toList) h
    (fun _ h R => R.ints_inv.elim fun a q => q.elim fun items q => q.elim fun n q => ⟨_, a, items, n, h, q.1, q.2.1, q.2.2.1, rvs_ints q.2.2.2⟩)
    fun _ h R => R.lst_inv.elim fun a q => q.elim fun items q => q.elim fun n q => ⟨_, a, items, n, h, q⟩
set_option tactic.hygienic true in
theorem forl_st (nd : vars.Nodup) (hE : SndE prog w g lev vars W) (hS : SndS prog w g lev vars W) {x : Str} {px pos : Pos} {it : Expr} {b' : List Stmt} {b : List IS} {i : Nat} {e : IE} (h1 : stAt vars env.scope i x = true) (h2 : plainIter it = true) (h3 : chkE 40 vars env.scope it e = true) (h4 : dC (chkS m vars env.scope) b' b = true) :
    NodeS prog w g lev vars W env (.For (.Name x px) it b' [] pos) (.forl i e b) := by
  intro A s ρ σ fr Kc Q E hB H hw hP
  refine N.eFor (hE 40 env _ _ h3 A s ρ σ fr _ _ E hB H hw ?_) (folded h2)
  intro av v BG AG hG tkG hk DG SG RG
  have HG := H.step DG SG
  obtain ⟨vs, a, items, n, hk, rfl, f, e1, r1⟩ := items_rv hk RG
  refine aB (wpAny_pyIter_list (s := (Fb.sh s hG tkG)) (eE e1) ?_)
  refine bcn fun nG => ?_; obtain ⟨n1, n2, n3, n4⟩ := HG.new
  have G := Grows.push hG { cls := .type "list_iterator", data := .fields #[.ref a, .int 0 0] }
  refine nG ?_; refine for_go (s := (Fb.sh s hG tkG)) (F := fun vs fr σ => nO W i b vs fr σ Kc) (vs := vs) nd hS h1 h4 hB (iter_list hB.hd _ a items n) (fun _ _ q => q) (fun _ _ _ _ q => wpFor_go q) n1 n2 n3 n4 (HG.push _) (G.stp _)
    ⟨0, ⟨_, Heap.get?_push_size _ rfl, rfl, rfl⟩, f, G _ _ e1, ?_⟩ trivial hk.2 (hP.afterE SG)
  exact r1.step G.stp
set_option tactic.hygienic true in
theorem forrev_st (T : Stat K g) (KF : KFacts K) (nd : vars.Nodup) (hE : SndE prog w g lev vars W) (hS : SndS prog w g lev vars W) {x r : Str} {px pr pc pos : Pos} {y : Expr} {b' : List Stmt} {b : List IS} {i : Nat} {e : IE} (h1 : stAt vars env.scope i x = true) (h2 : dO 10 r (env.scope.names.lookup r) = true) (h2' : aS y = true) (h3 : chkE 40 vars env.scope y e = true) (h4 : dC (chkS m vars env.scope) b' b = true) :
    NodeS prog w g lev vars W env (.For (.Name x px) (.Call (.Name r pr) [y] [] pc) b' [] pos) (.forrev i e b) := by
  intro A s ρ σ fr Kc Q E hB H hw hP
  have hca : aZ (chkE 40 vars env.scope) [y] [e] = true := by simp [aZ, h2', h3]
  refine bcn fun nG => ?_; obtain ⟨⟨v, hv⟩, hkk, hpn⟩ := dY h2
  have hve : v = .cst (.type "reversed") := by
    have : bN[10]? = some (Str.ofString "reversed", .cst (.type "reversed")) := rfl
    rw [this] at hv; cases hv; rfl
  refine nG ?_; subst hve
  refine N.eFor (fV hca (aB (eL T KF H hv hkk (bF hpn).1 fun f rf => ?_))) (fun _ => rfl)
  cases rf
  refine aX (P := fun _ => True) (cP "reversed") (N.cons (hE 40 env _ _ h3 A s ρ σ fr _ _ E hB H hw ?_))
  intro av u BG AG hG tkG hk DG SG RG
  have HG := H.step DG SG
  refine N.nil ⟨trivial, ?_⟩
  obtain ⟨nn, rfl, hk⟩ := aCv_inv hk
  cases hl : AG.cv with
  | none => rw [hl] at hk; exact hk.elim
  | some l =>
    rw [hl] at hk
    have hL := DG.cv
    rw [hl] at hL
    cases hc : BG.cv with
    | none => rw [hc] at hL; exact hL.elim
    | some a =>
      rw [hc] at hL
      refine bcn fun nG => ?_; obtain ⟨items, hil, hin⟩ := hL
      refine nG ?_; cases RG with
      | cv r1 r2 =>
      obtain rfl := r2 hk.1.1 a hc
      refine aB (call_reversed_list (s := (Fb.sh s hG tkG)) hil ?_)
      have hit : (hG.push (revObj a ((items.size : Int) - 1))).IsRevIter hG.objs.size a ((items.size : Int) - 1) := ⟨_, Heap.get?_push_size _ rfl, rfl, rfl⟩
      refine aB (wpAny_pyIter_revIter hit ?_)
      refine bcn fun nG => ?_; obtain ⟨n1, n2, n3, n4⟩ := HG.new
      have G := Grows.push hG (revObj a ((items.size : Int) - 1))
      have hlen : items.size = l.length := by have := bI hin; simpa using this
      refine nG ?_; refine for_go (s := (Fb.sh s hG tkG)) (F := fun vs fr σ => mE W _ i b vs fr σ Kc) (vs := (l.map .int).reverse) nd hS h1 h4 hB (iter_rev hB.hd _ a l AG.cvv) (fun _ _ q => q) (fun _ _ _ _ q => wpForP_go q) n1 n2 n3 n4 (HG.push _) (G.stp _)
        ⟨items.size, hit, hc, by (exact Nat.le_of_eq hlen), ?_⟩ ⟨rfl, hl⟩ hk.2 (hP.afterE SG)
      rw [List.take_of_length_le (by simp; (rw [hlen]; lia))]
theorem fits {x : Int} (h : -3000 <= x) (h' : x <= 3000) : Builtin.Range.rangeFitsLong x = true :=
  Bool.and_eq_true_iff.mpr ⟨decide_eq_true (Int.le_trans (by decide) h), decide_eq_true (Int.lt_of_le_of_lt h' (by decide))⟩
theorem size_neg (a b : Int) : Builtin.Range.rangeSize a b (-1) = ((a - b).toNat : Int) := by
  show (if a > b then (a - b - 1) / (-(-1)) + 1 else 0) = _
  induction Int.decLt b a using Decidable.casesOn with
  | isTrue h =>
    rw [if_pos h, Int.neg_neg, Int.ediv_one, Int.sub_add_cancel]
    exact (Int.toNat_of_nonneg (Int.sub_nonneg_of_le (Int.le_of_lt h))).symm
  | isFalse h =>
    rw [if_neg h, Int.toNat_eq_zero.mpr (Int.sub_nonpos_of_le (Int.not_lt.mp h))]; rfl
theorem small_neg {a b : Int} (ha : -1000 <= a) (ha' : a <= 1000) (hb : -1000 <= b) (hb' : b <= 1000) : Builtin.Range.small a b (-1) = true /\ Builtin.Range.rangeSize a b (-1) = ((a - b).toNat : Int) := by
  refine ⟨?_, size_neg a b⟩
  unfold Builtin.Range.small
  rw [size_neg]
  have f : ∀ {x : Int}, -1000 <= x -> x <= 1000 -> Builtin.Range.rangeFitsLong x = true := fun h h' => fits (Int.le_trans (by decide) h) (Int.le_trans h' (by decide))
  rw [f ha ha', f hb hb', fits (x := ((a - b).toNat : Int)) (by exact Int.natCast_nonneg _) (by lia)]
  exact Bool.or_eq_true_iff.mpr (.inr (fits (by lia) (by lia)))
set_option tactic.hygienic true in
theorem forr_st (T : Stat K g) (KF : KFacts K) (nd : vars.Nodup) (hE : SndE prog w g lev vars W) (hS : SndS prog w g lev vars W) {x r : Str} {px pr pc pos : Pos} {xs : List Expr} {b' : List Stmt} {b : List IS} {i : Nat} {es : List IE} (h1 : stAt vars env.scope i x = true) (h2 : dO 9 r (env.scope.names.lookup r) = true) (h3 : aZ (chkE 40 vars env.scope) xs es = true) (h4 : dC (chkS m vars env.scope) b' b = true) :
    NodeS prog w g lev vars W env (.For (.Name x px) (.Call (.Name r pr) xs [] pc) b' [] pos) (.forr i es b) := by
  intro A s ρ σ fr Kc Q E hB H hw hP
  have zq0 := dY h2; obtain ⟨v, hv⟩ := zq0.1; have hkk := zq0.2.1; have hpn := zq0.2.2; clear zq0
  have hve : v = .cst (.type "range") := by
    have : bN[9]? = some (Str.ofString "range", .cst (.type "range")) := rfl
    rw [this] at hv; cases hv; rfl
  subst hve
  refine N.eFor (fV h3 (aB (eL T KF H hv hkk (bF hpn).1 fun f rf => ?_))) (fun _ => rfl)
  cases rf
  refine aX (P := fun _ => True) (cP "range") (gA hE h3 A s ρ σ fr _ _ E hB H hw ?_)
  intro avs vs BG AG hG tkG hk DG SG RG
  have HG := H.step DG SG
  refine ⟨trivial, ?_⟩
  split at hk
  . rename_i ks hks
    obtain ⟨hok, hk⟩ := hk
    have go : ∀ (a c : Int) (n : Int) (o : Obj) (tk : Nat), 0 <= n -> ks = (List.range n.toNat).map (fun k : Nat => a + (k : Int) * c) ->
        bQ (model prog w) A (.forLoop (.Name x px) (.ref (hG.push o).objs.size) b' [] env) (fun r s' => match r with | .ok f => Q f s' | .error _ => False) (Fb.sh s ((hG.push o).push { cls := .type "range_iterator", data := .fields #[rawInt a, rawInt n, rawInt c] }) tk) := by
      intro a c n o tk hn hks'
      have HH := HG.push o
      have zq0 := HH.new; have n1 := zq0.1; have n2 := zq0.2.1; have n3 := zq0.2.2.1; have n4 := zq0.2.2.2; clear zq0
      have G := Grows.push (hG.push o) { cls := .type "range_iterator", data := .fields #[rawInt a, rawInt n, rawInt c] }
      refine for_go (s := (Fb.sh s (hG.push o) tk)) (F := fun vs fr σ => nO W i b vs fr σ Kc) (vs := ks.map .int) nd hS h1 h4 hB (iter_range hB.hd _ c) (fun _ _ q => q) (fun _ _ _ _ q => wpFor_go q) n1 n2 n3 n4 (HH.push _) (G.stp _)
        ⟨a, n, Heap.get?_push_size _ rfl, hn, ?_⟩ trivial hk (hP.afterE (SG.trans (Grows.push hG o).stp))
      rw [hks', List.map_map]; rfl
    unfold rangeOf at hks
    split at hks
    . cases RG with | cons r rs =>
      cases rs
      refine onInt_el hks fun n e k1 => ?_
      clear hks
      cases k1
      cases e
      obtain ⟨t, rfl⟩ := r.int_inv
      refine aB (call_range_1 (s := (Fb.sh s hG tkG)) ?_)
      obtain ⟨o1, o2⟩ : 0 <= n /\ n <= 1000 := hok
      refine aB (wpAny_pyIter_range (IsRange.new ..) (small_one (by lia) (by exact Int.natCast_nonneg _) (by lia) (by exact Int.lt_of_le_of_lt (by assumption) (by decide))) ?_)
      have hsz : Builtin.Range.rangeSize 0 n 1 = n := by rw [rangeSize_one]; split <;> lia
      rw [hsz]
      exact go 0 1 n _ _ o1 (by unfold jM; simp)
    . cases RG with | cons r rs =>
      cases rs with | cons r2 rs =>
      cases rs with | cons r3 rs =>
      cases rs
      refine onInt_el hks fun a e k1 => onInt_el k1 fun b e2 k2 => onInt_el k2 fun c e3 k3 => ?_
      clear hks k1 k2
      cases e
      cases e2
      cases e3
      obtain ⟨t, rfl⟩ := r.int_inv
      obtain ⟨t2, rfl⟩ := r2.int_inv
      obtain ⟨t3, rfl⟩ := r3.int_inv
      split at k3
      case isFalse => cases k3
      subst c
      cases k3
      obtain ⟨⟨o1, o2⟩, o3, o4⟩ : (-1000 <= a /\ a <= 1000) /\ (-1000 <= b /\ b <= 1000) := hok
      refine aB (call_range_3 (s := (Fb.sh s hG tkG)) (by decide) ?_ (.inl (PyProof.noPylong_small (by exact Nat.le_add_left _ _))))
      have zq0 := small_neg o1 o2 o3 o4; have q1 := zq0.1; have q2 := zq0.2; clear zq0
      refine aB (wpAny_pyIter_range (IsRange.new ..) q1 ?_)
      rw [q2]
      exact go a (-1) _ _ _ (by exact Int.natCast_nonneg _) (by rw [Int.toNat_natCast]; apply List.map_congr_left; intro k _; lia)
    . cases hks
  . exact hk.elim
end
end Fb
namespace Fb
section
variable {prog : Program} {w : World} {g : Heap} {lev : Nat} {vars : List Str} {K : Frag} {Γ : Fns} {W : Wp} {env : Env} {m : Nat}
set_option tactic.hygienic true in
theorem unp_go (nd : vars.Nodup) : ∀ {ts : List Expr} {is : List Nat} {avs : List AV} {vs : List Value}, chkTs vars env.scope ts is = true ->
    ∀ (A : Around) (s : Shared) (ρ : Ad) (σ : St) (fr : List AV) (fr' : List AV) (Q : Unit -> Shared -> Prop) (E : Value -> Shared -> Prop), setVars fr is avs = some fr' -> Act g ρ σ env vars fr s.heap -> RVs ρ σ s.heap avs vs ->
      (∀ h' tk, Act g ρ σ env vars fr' h' -> Stp (Own env) ρ σ s.heap ρ σ h' -> Q () (Fb.sh s h' tk)) ->
      wpAny (model prog w) A (assignInOrder ((assignEach ts env).map (·.2)) vs) Q E s := by
  intro ts
  induction ts with
  | nil =>
    intro is avs vs h A s ρ σ fr fr' Q E hs H R hQ
    induction is using List.casesOn with
    | cons _ _ => exact ff h
    | nil =>
      induction avs using List.casesOn with
      | nil => (have e9 := Option.some.inj hs; clear hs; subst e9); cases R; exact wpAny_pure (hQ s.heap s.toks H (Stp.refl ..))
      | cons a r => exact nomatch hs
  | cons t ts ih =>
    intro is avs vs h A s ρ σ fr fr' Q E hs H R hQ
    induction is using List.casesOn with
    | nil => exact ff h
    | cons i is =>
      obtain ⟨h1, h2⟩ := an h
      refine aV h1 fun x px h1 => ?_
      obtain ⟨hi, hk, hn⟩ := iZ h1
      induction avs using List.casesOn with
      | nil => exact nomatch hs
      | cons av avs =>
        cases R with
        | cons r rs =>
          rename_i v vs
          show wpAny _ A (do holding vs (assign (.Name x px) env v); assignInOrder ((assignEach ts env).map (·.2)) vs) Q E s
          refine wpAny_bind (wpAny_holding (assign_Name (eM H hi nd hk r ?_)))
          intro hG tkG HG SG
          exact ih h2 A (Fb.sh s hG tkG) ρ σ _ fr' Q E hs HG (RVs.mono SG H.ownS rs) fun h' tk H' S' => hQ h' tk H' (SG.trans S')
theorem assignEach_len : ∀ {ts : List Expr} {is : List Nat}, chkTs vars env.scope ts is = true -> (assignEach ts env).length = is.length /\ (assignEach ts env).findIdx? (·.1) = none := by
  intro ts
  induction ts with
  | nil =>
    intro is h
    induction is using List.casesOn with
    | nil => exact ⟨rfl, rfl⟩
    | cons _ _ => exact ff h
  | cons t ts ih =>
    intro is h
    induction is using List.casesOn with
    | nil => exact ff h
    | cons i is =>
      obtain ⟨h1, h2⟩ := an h
      refine aV h1 fun x px _ => ?_
      obtain ⟨a, b⟩ := ih h2
      refine ⟨congrArg (· + 1) a, ?_⟩
      show List.findIdx? _ ((false, _) :: assignEach ts env) = none
      rw [List.findIdx?_cons, b]; rfl
theorem setVars_len : ∀ {is : List Nat} {fr : List AV} {vs : List AV} {fr' : List AV}, setVars fr is vs = some fr' -> is.length = vs.length := by
  intro is
  induction is with
  | nil =>
    intro fr vs fr' h
    induction vs using List.casesOn with
    | nil => rfl
    | cons _ _ => exact nomatch h
  | cons i is ih =>
    intro fr vs fr' h
    induction vs using List.casesOn with
    | nil => exact nomatch h
    | cons v vs => exact congrArg (· + 1) (ih (fr := fr.set i v) h)
theorem unp_rv {ρ : Ad} {σ : St} {hp : Heap} {av : AV} {v : Value} {f : List AV -> Prop} (h : aUnp av f) : RV ρ σ hp av v -> ∃ vs a items n, f vs /\ v = .ref a /\ hp.get? a = some (tob items n) /\ RVs ρ σ hp vs items.toList :=
  aUnp_el (P := fun av => RV ρ σ hp av v -> ∃ vs a items n, f vs /\ v = .ref a /\ hp.get? a = some (tob items n) /\ RVs ρ σ hp vs items.toList) h
    (fun _ h R => R.itup_inv.elim fun a q => q.elim fun items q => q.elim fun n q => ⟨_, a, items, n, h, q.1, q.2.2.1, rvs_ints q.2.2.2⟩)
    fun _ h R => R.tup_inv.elim fun a q => q.elim fun items q => q.elim fun n q => ⟨_, a, items, n, h, q.1, q.2.2.1, q.2.2.2⟩
set_option tactic.hygienic true in
theorem unp_st (nd : vars.Nodup) (hE : SndE prog w g lev vars W) {ts : List Expr} {k : Nat} {pt pos : Pos} {v : Expr} {is : List Nat} {e : IE} (h1 : bV v = true) (h1' : notTup v = true) (h2 : chkTs vars env.scope ts is = true) (h3 : chkE 40 vars env.scope v e = true) :
    NodeS prog w g lev vars W env (.Assign [.Tuple ts k pt] v pos) (.unp is e) := by
  intro A s ρ σ fr Kc Q E hB H hw hP
  refine N.eTuple (hE 40 env _ _ h3 A s ρ σ fr _ _ E hB H hw ?_) (show swapsWithSole [.Tuple ts k pt] v pos.line env = pure false from dP (t := some (.Tuple ts k pt)) (env := env) (l := pos.line) h1) (by cases v <;> first | rfl | exact ff h1')
  intro av u BG AG hG tkG hk DG SG RG
  have HG := H.step DG SG
  obtain ⟨vs, a, items, n, hk, rfl, e1, r1⟩ := unp_rv hk RG
  induction hfr : setVars fr is vs using Option.casesOn with
  | none => rw [hfr] at hk; exact hk.elim
  | some fr' =>
    rw [hfr] at hk
    obtain ⟨l1, l2⟩ := assignEach_len (env := env) h2
    have l3 := setVars_len hfr
    have l4 := dB r1
    refine aB (assign_Tuple_tuple (s := (Fb.sh s hG tkG)) hB.hd (istup' e1) (by rw [l1, l3]; simpa using l4.symm) l2 ?_)
    intro hH eG
    have G : Grows hG hH := fun a o e => eG a o (Nat.ne_of_lt (Heap.lt_size e)) e
    refine unp_go nd h2 A (Fb.sh s hH tkG) BG AG fr fr' _ E hfr (HG.step (DG.grow G) G.stp) (r1.step G.stp) ?_
    intro hJ tkJ HJ SW
    exact hP .next .next fr' BG AG hJ tkJ hk HJ (((SG.trans G.stp).weaken fun _ q => q.elim).trans SW) .next
theorem new_M {l L M : List Addr} {c : Addr} (p : l.Perm (c :: L)) (s : L.Sublist M) (h : M.Nodup) (hc : c ∉ M) : l.Nodup /\ ∀ a ∈ l, a = c \/ a ∈ M :=
  ⟨p.nodup_iff.mpr (List.nodup_cons.mpr ⟨fun q => hc (s.subset q), s.nodup h⟩), fun a ha => (List.mem_cons.mp (p.mem_iff.mp ha)).imp id fun q => s.subset q⟩
theorem six_sub {x a b d e f : Addr} {l m : List Addr} (s : l.Sublist m) : (x :: a :: b :: d :: e :: f :: l).Sublist (x :: a :: b :: d :: e :: f :: m) := .cons₂ _ (.cons₂ _ (.cons₂ _ (.cons₂ _ (.cons₂ _ (.cons₂ _ s)))))
theorem new_cv {ρ : Ad} {c : Addr} (h : ρ.M.Nodup) (hc : c ∉ ρ.M) : ({ ρ with cv := some c } : Ad).M.Nodup /\ ∀ a ∈ ({ ρ with cv := some c } : Ad).M, a = c \/ a ∈ ρ.M :=
  new_M (List.perm_middle (l₁ := [ρ.b, ρ.dx, ρ.ba, ρ.vd, ρ.pl, ρ.bx]) (l₂ := ρ.tb.toList ++ ρ.tl.toList)) (six_sub (List.sublist_append_right _ _)) h hc
theorem new_tb {ρ : Ad} {c : Addr} (h : ρ.M.Nodup) (hc : c ∉ ρ.M) : ({ ρ with tb := some c } : Ad).M.Nodup /\ ∀ a ∈ ({ ρ with tb := some c } : Ad).M, a = c \/ a ∈ ρ.M :=
  new_M (List.perm_middle (l₁ := ρ.b :: ρ.dx :: ρ.ba :: ρ.vd :: ρ.pl :: ρ.bx :: ρ.cv.toList) (l₂ := ρ.tl.toList)) (six_sub ((List.Sublist.refl _).append (List.sublist_append_right _ _))) h hc
theorem new_tl {ρ : Ad} {c : Addr} (h : ρ.M.Nodup) (hc : c ∉ ρ.M) : ({ ρ with tl := some c } : Ad).M.Nodup /\ ∀ a ∈ ({ ρ with tl := some c } : Ad).M, a = c \/ a ∈ ρ.M :=
  new_M (((((((((List.perm_append_singleton c ρ.tb.toList).append_left ρ.cv.toList).cons _).cons _).cons _).cons _).cons _).cons _).trans (List.perm_middle (l₁ := ρ.b :: ρ.dx :: ρ.ba :: ρ.vd :: ρ.pl :: ρ.bx :: ρ.cv.toList) (l₂ := ρ.tb.toList)))
    (six_sub ((List.Sublist.refl _).append (List.sublist_append_left _ _))) h hc
theorem Dyn.notIn {ρ : Ad} {σ : St} {h : Heap} {c : Addr} (D : Dyn g ρ σ h) (hc : h.get? c = none) : c ∉ ρ.M /\ c ∉ ρ.rs := by
  refine ⟨fun q => ?_, fun q => ?_⟩
  . obtain ⟨o, e⟩ := D.inM q; rw [hc] at e; exact nn e
  . obtain ⟨o, zq0⟩ := D.rsin c q; have e := zq0.1; rw [hc] at e; exact nn e
theorem Dyn.adoptTl {ρ : Ad} {σ : St} {h h' : Heap} {c : Addr} {l : List Int} {vs : Array Value} {n : Nat} (D : Dyn g ρ σ h) (G : Grows h h') (e : h'.get? c = some (lob vs n)) (i : IntsAre vs.toList l) (hc : h.get? c = none) (hg : g.get? c = none) :
    Dyn g { ρ with tl := some c } ((σ.uTl (some l)).uTlv (σ.tlv + 1)) h' /\ Stp NoP ρ σ h { ρ with tl := some c } ((σ.uTl (some l)).uTlv (σ.tlv + 1)) h' := by
  have zq0 := D.notIn hc; have hM := zq0.1; have hr := zq0.2; clear zq0
  have zq0 := new_tl D.nodup hM; have nd := zq0.1; have sub := zq0.2; clear zq0
  have S : Stp NoP ρ σ h { ρ with tl := some c } ((σ.uTl (some l)).uTlv (σ.tlv + 1)) h' :=
    ⟨rfl, rfl, rfl, rfl, rfl, rfl, ⟨Nat.le_refl _, fun _ => rfl⟩, ⟨Nat.le_refl _, fun _ _ e => e⟩, ⟨Nat.le_succ _, fun e => absurd e (Nat.succ_ne_self _)⟩, ⟨Nat.le_refl _, fun _ _ e => e⟩,
      fun a o m _ eo => ⟨G a o eo, fun q => (sub a q).elim (fun q => by rw [q, hc] at eo; exact nn eo) m⟩⟩
  obtain ⟨sl, zq0⟩ := D.ob; have f1 := zq0.1; have f2 := zq0.2.1; have f3 := zq0.2.2
  refine ⟨⟨⟨sl, G _ _ f1, f2, fun k hk => ?_⟩, G _ _ D.dx, G _ _ D.ba, ?_, D.vd1, D.cv.keep fun b _ o q => G b o q, D.tb.keep fun b _ o q => G b o q, ⟨vs, n, e, i⟩, ?_, ?_, nd, fun a ha => ?_, fun a ha => ?_, fun a ha => ?_⟩, S⟩
  . have e2 : St.slot ((σ.uTl (some l)).uTlv (σ.tlv + 1)) k = σ.slot k := by induction k using Sl.casesOn <;> rfl
    rw [e2] at hk ⊢
    obtain ⟨v, zq0⟩ := f3 k hk; have a := zq0.1; have b := zq0.2
    exact ⟨v, a, b.step S⟩
  . obtain ⟨o, es, n, xs, zq0⟩ := D.vd; have a := zq0.1; have b := zq0.2.1; have c := zq0.2.2.1; have d := zq0.2.2.2.1; have e' := zq0.2.2.2.2.1; have f := zq0.2.2.2.2.2.1; have r := zq0.2.2.2.2.2.2
    exact ⟨o, es, n, xs, G _ _ a, b, c, d, e', f, fun x hx => (r x hx).step S⟩
  . obtain ⟨pa, t, zq0⟩ := D.pl; have a := zq0.1; have b := zq0.2
    exact ⟨pa, t, aU a fun o q => G _ _ q, b.step S⟩
  . obtain ⟨pa, t, zq0⟩ := D.bx; have a := zq0.1; have b := zq0.2
    exact ⟨pa, t, aU a fun o q => G _ _ q, b.step S⟩
  . exact (sub a ha).elim (fun q => q ▸ hg) (D.off a)
  . exact (sub a ha).elim (fun q => q ▸ hr) (D.rsoff a)
  . obtain ⟨o, zq0⟩ := D.rsin a ha; have e1 := zq0.1; have q := zq0.2
    exact ⟨o, G _ _ e1, q⟩
theorem Dyn.adoptTb {ρ : Ad} {σ : St} {h h' : Heap} {c : Addr} {l : List UInt8} (D : Dyn g ρ σ h) (G : Grows h h') (e : h'.get? c = some (bob l)) (hc : h.get? c = none) (hg : g.get? c = none) :
    Dyn g { ρ with tb := some c } ((σ.uTb (some l)).uTbv (σ.tbv + 1)) h' /\ Stp NoP ρ σ h { ρ with tb := some c } ((σ.uTb (some l)).uTbv (σ.tbv + 1)) h' := by
  have zq0 := D.notIn hc; have hM := zq0.1; have hr := zq0.2; clear zq0
  have zq0 := new_tb D.nodup hM; have nd := zq0.1; have sub := zq0.2; clear zq0
  have S : Stp NoP ρ σ h { ρ with tb := some c } ((σ.uTb (some l)).uTbv (σ.tbv + 1)) h' :=
    ⟨rfl, rfl, rfl, rfl, rfl, rfl, ⟨Nat.le_refl _, fun _ => rfl⟩, ⟨Nat.le_succ _, fun e => absurd e (Nat.succ_ne_self _)⟩, ⟨Nat.le_refl _, fun _ _ e => e⟩, ⟨Nat.le_refl _, fun _ _ e => e⟩,
      fun a o m _ eo => ⟨G a o eo, fun q => (sub a q).elim (fun q => by rw [q, hc] at eo; exact nn eo) m⟩⟩
  obtain ⟨sl, zq0⟩ := D.ob; have f1 := zq0.1; have f2 := zq0.2.1; have f3 := zq0.2.2
  refine ⟨⟨⟨sl, G _ _ f1, f2, fun k hk => ?_⟩, G _ _ D.dx, G _ _ D.ba, ?_, D.vd1, D.cv.keep fun b _ o q => G b o q, e, D.tl.keep fun b _ o q => G b o q, ?_, ?_, nd, fun a ha => ?_, fun a ha => ?_, fun a ha => ?_⟩, S⟩
  . have e2 : St.slot ((σ.uTb (some l)).uTbv (σ.tbv + 1)) k = σ.slot k := by induction k using Sl.casesOn <;> rfl
    rw [e2] at hk ⊢
    obtain ⟨v, zq0⟩ := f3 k hk; have a := zq0.1; have b := zq0.2
    exact ⟨v, a, b.step S⟩
  . obtain ⟨o, es, n, xs, zq0⟩ := D.vd; have a := zq0.1; have b := zq0.2.1; have c := zq0.2.2.1; have d := zq0.2.2.2.1; have e' := zq0.2.2.2.2.1; have f := zq0.2.2.2.2.2.1; have r := zq0.2.2.2.2.2.2
    exact ⟨o, es, n, xs, G _ _ a, b, c, d, e', f, fun x hx => (r x hx).step S⟩
  . obtain ⟨pa, t, zq0⟩ := D.pl; have a := zq0.1; have b := zq0.2
    exact ⟨pa, t, aU a fun o q => G _ _ q, b.step S⟩
  . obtain ⟨pa, t, zq0⟩ := D.bx; have a := zq0.1; have b := zq0.2
    exact ⟨pa, t, aU a fun o q => G _ _ q, b.step S⟩
  . exact (sub a ha).elim (fun q => q ▸ hg) (D.off a)
  . exact (sub a ha).elim (fun q => q ▸ hr) (D.rsoff a)
  . obtain ⟨o, zq0⟩ := D.rsin a ha; have e1 := zq0.1; have q := zq0.2
    exact ⟨o, G _ _ e1, q⟩
theorem dyn_newcv {ρ : Ad} {σ : St} {h h' : Heap} {sl : Array (Option Value)} {L c : Addr} {l : List Int} {vs : Array Value} (D : Dyn g ρ σ h) (hS : ∀ a o, a = L -> h.get? a = some o -> ¬ Seqy o) (hL : L ∉ ρ.M)
    (e1 : h.get? ρ.b = some ⟨.ref 729, some ρ.dx, .plain, sl⟩) (hsz : sl.size = 11)
    (e2 : h'.get? ρ.b = some ⟨.ref 729, some ρ.dx, .plain, sl.setIfInBounds Sl.cv.idx (some (.ref c))⟩) (keep : ∀ a o, a ≠ L -> a ≠ ρ.b -> h.get? a = some o -> h'.get? a = some o)
    (ec : h'.IsList c vs) (i : IntsAre vs.toList l) (hc : h.get? c = none) (hg : g.get? c = none) :
    Dyn g { ρ with cv := some c } ((σ.uCv (some l)).uCvv (σ.cvv + 1)) h' /\ Stp (fun a => a = L) ρ σ h { ρ with cv := some c } ((σ.uCv (some l)).uCvv (σ.cvv + 1)) h' := by
  have zq0 := D.notIn hc; have hM := zq0.1; have hr := zq0.2; clear zq0
  have zq0 := new_cv D.nodup hM; have nd := zq0.1; have sub := zq0.2; clear zq0
  have S : Stp (fun a => a = L) ρ σ h { ρ with cv := some c } ((σ.uCv (some l)).uCvv (σ.cvv + 1)) h' :=
    ⟨rfl, rfl, rfl, rfl, rfl, rfl, ⟨Nat.le_refl _, fun _ => rfl⟩, ⟨Nat.le_refl _, fun _ _ e => e⟩, ⟨Nat.le_refl _, fun _ _ e => e⟩, ⟨Nat.le_succ _, fun e => absurd e (Nat.succ_ne_self _)⟩,
      fun a o m np eo => ⟨keep a o np (fun q => m (q ▸ M_b)) eo, fun q => (sub a q).elim (fun q => by rw [q, hc] at eo; cases eo) m⟩⟩
  have zq0 := Ab_ne D; have n1 := zq0.1; have n2 := zq0.2.1; have n3 := zq0.2.2.1; have n4 := zq0.2.2.2.1; have n5 := zq0.2.2.2.2.1; have n6 := zq0.2.2.2.2.2.1; have n7 := zq0.2.2.2.2.2.2.1; have n8 := zq0.2.2.2.2.2.2.2; clear zq0
  have kM : ∀ a ∈ ρ.M, a ≠ ρ.b -> ∀ o, h.get? a = some o -> h'.get? a = some o := fun a ha hb o e => keep a o (fun q => hL (q ▸ ha)) hb e
  obtain ⟨sl0, zq0⟩ := D.ob; have f1 := zq0.1; have f2 := zq0.2.1; have f3 := zq0.2.2
  rw [e1] at f1; cases f1
  refine ⟨⟨⟨_, e2, Array.size_setIfInBounds.trans hsz, fun j hj => ?_⟩, kM _ M_dx n1.symm _ D.dx, kM _ M_ba n2.symm _ D.ba, ?_, D.vd1, ⟨vs, ec, i⟩, D.tb.keep fun b hb o e => kM b (tbM hb) (n7 b hb).symm o e, D.tl.keep fun b hb o e => kM b (tlM hb) (n8 b hb).symm o e, ?_, ?_, nd, fun a ha => ?_, fun a ha => ?_, fun a ha => ?_⟩, S⟩
  . by_cases hjk : j = .cv
    . subst hjk
      refine ⟨.ref c, ?_, .cv (Nat.le_refl _) fun _ x hx => by cases hx; rfl⟩
      rw [Array.getElem?_setIfInBounds_self_of_lt (by rw [hsz]; decide)]; rfl
    . have e3 : St.slot ((σ.uCv (some l)).uCvv (σ.cvv + 1)) j = σ.slot j := by cases j <;> first | rfl | exact absurd rfl hjk
      rw [e3] at hj ⊢
      obtain ⟨u, zq0⟩ := f3 j hj; have a := zq0.1; have b := zq0.2
      refine ⟨u, ?_, RV.mono S hS b⟩
      rw [Array.getElem?_setIfInBounds_ne (Sl.idx_ne fun q => hjk q.symm)]; exact a
  . obtain ⟨o, es, n, xs, zq0⟩ := D.vd; have a := zq0.1; have b := zq0.2.1; have c := zq0.2.2.1; have d := zq0.2.2.2.1; have e := zq0.2.2.2.2.1; have f := zq0.2.2.2.2.2.1; have r := zq0.2.2.2.2.2.2
    exact ⟨o, es, n, xs, kM _ M_vd n3.symm _ a, b, c, d, e, f, fun x hx => RV.mono S hS (r x hx)⟩
  . obtain ⟨pa, t, zq0⟩ := D.pl; have a := zq0.1; have b := zq0.2; exact ⟨pa, t, aU a (kM _ M_pl n4.symm), RV.mono S hS b⟩
  . obtain ⟨pa, t, zq0⟩ := D.bx; have a := zq0.1; have b := zq0.2; exact ⟨pa, t, aU a (kM _ M_bx n5.symm), RV.mono S hS b⟩
  . exact (sub a ha).elim (fun q => q ▸ hg) (D.off a)
  . exact (sub a ha).elim (fun q => q ▸ hr) (D.rsoff a)
  . obtain ⟨o, zq0⟩ := D.rsin a ha; have e := zq0.1; have q := zq0.2
    exact ⟨o, (S.keep _ _ (fun m => D.rsoff a m ha) (fun hp => hS _ _ hp e q) e).1, q⟩
end
end Fb
namespace Fb
noncomputable def NewTb (prog : Program) (w : World) (lev : Nat) : Prop :=
  ∀ (A : Around) (s : Shared) (n : Int) (t : Tok) (Q E : Value -> Shared -> Prop), Bud lev A -> 0 <= n -> n <= 1000000 ->
    (∀ h' tk a, Grows s.heap h' -> s.heap.get? a = none -> h'.get? a = some (bob (List.replicate n.toNat 0)) -> Q (.ref a) (Fb.sh s h' tk)) ->
    wpN (model prog w) A (call (.type "bytearray") [.int n t]) Q E s
noncomputable def SetB (prog : Program) (w : World) (lev : Nat) : Prop :=
  ∀ (A : Around) (s : Shared) (a sa : Addr) (l raw : List UInt8) (x : Int) (t : Tok) (hi v : Value) (Q : Unit -> Shared -> Prop) (E : Value -> Shared -> Prop), Bud lev A -> s.heap.get? a = some (bob l) -> s.heap.get? sa = some (sob (.int x t) hi .none) ->
    ((∃ t', v = .bytes raw.toArray t' /\ ∃ y t2, hi = .int y t2 /\ y = x + raw.length) \/ (∃ c, v = .ref c /\ c ≠ a /\ s.heap.get? c = some (bob raw) /\ hi = .none /\ x + raw.length = l.length)) -> 0 <= x -> x + raw.length <= l.length -> l.length <= 1000000 ->
    (∀ h' tk, h'.get? a = some (bob (aN l x.toNat raw)) -> (∀ b o, b ≠ a -> s.heap.get? b = some o -> h'.get? b = some o) -> Q () (Fb.sh s h' tk)) ->
    wpN (model prog w) A (setItem (.ref a) (.ref sa) v) Q E s
section
variable {prog : Program} {w : World} {g : Heap} {lev : Nat} {vars : List Str} {K : Frag} {Γ : Fns} {W : Wp} {env : Env} {m : Nat}
theorem newtl_st (nd : vars.Nodup) {x : Str} {px pl pos : Pos} {i : Nat} (h1 : stAt vars env.scope i x = true) : NodeS prog w g lev vars W env (.Assign [.Name x px] (.List [] pl) pos) (.newtl i) := by
  intro A s ρ σ fr Kc Q E hB H hw hP
  have zq0 := iZ h1; have hi := zq0.1; have hk := zq0.2.1; have hn := zq0.2.2; clear zq0
  refine N.eName (N.List (N.nil (aB (wpAny_newObj_type ?_ (by show (#[] : Array Value).size <= sizeLine; rw [sizeLine_eq]; decide))))) (dP (by rfl))
  have zq0 := H.new; have n1 := zq0.1; have n2 := zq0.2.1; have n3 := zq0.2.2.1; have n4 := zq0.2.2.2; clear zq0
  have G := Grows.push s.heap (lob (([] : List Value).toArray) 0)
  have zq0 := H.dyn.adoptTl (l := []) G (Heap.get?_push_size _ rfl) .nil n1 n3; have D' := zq0.1; have S' := zq0.2; clear zq0
  refine aB (eM (s := { s with heap := s.heap.push (lob (([] : List Value).toArray) 0) }) (H.step D' S') hi nd hk (av := .tl (σ.tlv + 1)) (.tl (Nat.le_refl _) fun _ z hz => by (have e9 := Option.some.inj hz; clear hz; subst e9); rfl) ?_)
  intro hH tkH HH SH
  exact hP .next .next _ _ _ hH tkH hw HH ((S'.weaken fun _ q => q.elim).trans SH) .next
set_option tactic.hygienic true in
theorem newtb_st (T : Stat K g) (KF : KFacts K) (nd : vars.Nodup) (hE : SndE prog w g lev vars W) (hnb : NewTb prog w lev) {x r : Str} {px pr pc pos : Pos} {y : Expr} {i : Nat} {n : IE} (h1 : stAt vars env.scope i x = true) (h2 : dO 11 r (env.scope.names.lookup r) = true) (h3 : aS y = true) (h4 : chkE 40 vars env.scope y n = true) :
    NodeS prog w g lev vars W env (.Assign [.Name x px] (.Call (.Name r pr) [y] [] pc) pos) (.newtb i n) := by
  intro A s ρ σ fr Kc Q E hB H hw hP
  have zq0 := iZ h1; have hi := zq0.1; have hk := zq0.2.1; have hn := zq0.2.2; clear zq0
  have hca : aZ (chkE 40 vars env.scope) [y] [n] = true := by simp [aZ, h3, h4]
  have zq0 := dY h2; obtain ⟨v, hv⟩ := zq0.1; have hkk := zq0.2.1; have hpn := zq0.2.2; clear zq0
  have hve : v = .cst (.type "bytearray") := by
    have : bN[11]? = some (Str.ofString "bytearray", .cst (.type "bytearray")) := rfl
    rw [this] at hv; cases hv; rfl
  subst hve
  refine N.eName (fV hca (aB (eL T KF H hv hkk (bF hpn).1 fun f rf => ?_))) (dP (by rfl))
  cases rf
  refine aX (P := fun _ => True) (cP "bytearray") (N.cons (hE 40 env _ _ h4 A s ρ σ fr _ _ E hB H hw ?_))
  intro av u BG AG hG tkG hk' DG SG RG
  have HG := H.step DG SG
  refine N.nil ⟨trivial, ?_⟩
  obtain ⟨m', rfl, hk'⟩ := gI hk'
  obtain ⟨t, rfl⟩ := RG.int_inv
  refine hnb A (Fb.sh s hG tkG) m' t _ E hB hk'.1.1 hk'.1.2 ?_
  intro hH tkH a G hc e
  have hg : g.get? a = none := by
    cases q : g.get? a with
    | none => rfl
    | some o => have := HG.st _ _ q; rw [show hG.get? a = none from hc] at this; cases this
  have zq0 := DG.adoptTb (h' := hH) G e hc hg; have D' := zq0.1; have S' := zq0.2; clear zq0
  refine aB (eM (s := (Fb.sh s hH tkH)) (HG.step D' S') hi nd hk (av := .tb (AG.tbv + 1)) (.tb (Nat.le_refl _) fun _ z hz => by cases hz; rfl) ?_)
  intro hJ tkJ HJ SW
  exact hP .next .next _ _ _ hJ tkJ hk'.2 HJ (((SG.trans S').weaken fun _ q => q.elim).trans SW) .next
theorem loc_inv {x : Str} {i : Nat} (h : ((match vars[i]? with | some y => y == x | none => false) && visK (env.scope.names.lookup x) && cK x) = true) : vars[i]? = some x /\ Vis env x /\ (x == ("__debug__" : Str)) = false /\ (x == ("__classdict__" : Str)) = false := by
  simp only [Bool.and_eq_true] at h
  refine bcn fun nG => ?_; obtain ⟨⟨h1, h2⟩, h3⟩ := h
  refine nG ?_; refine ⟨?_, ?_, bF h3⟩
  . induction hq : vars[i]? using Option.casesOn with
    | none => rw [hq] at h1; exact ff h1
    | some y => rw [hq] at h1; rw [eq_of_beq h1]
  . show env.scope.names.lookup x = _ \/ env.scope.names.lookup x = _ \/ env.scope.names.lookup x = _
    induction hq : env.scope.names.lookup x using Option.casesOn with
    | none => rw [hq] at h2; exact ff h2
    | some k => rw [hq] at h2; induction k using NameKind.casesOn <;> first | exact .inl rfl | exact .inr (.inl rfl) | exact .inr (.inr rfl) | cases h2
set_option tactic.hygienic true in
theorem newcv_st (T : Stat K g) (KF : KFacts K) (hE : SndE prog w g lev vars W) {x a : Str} {y : Expr} {k0 : Nat} {px pa pk pl pb pos : Pos} {i : Nat} {n : IE} (h1 : (a == Sl.cv.name) = true) (h2 : chkE 40 vars env.scope y n = true) (h3 : ((match vars[i]? with | some y => y == x | none => false) && visK (env.scope.names.lookup x) && cK x) = true) :
    NodeS prog w g lev vars W env (.Assign [.Attribute (.Name x px) a pa] (.BinOp (.List [.Constant (.int 0) k0 pk] pl) .Mult y pb) pos) (.newcv i n) := by
  intro A s ρ σ fr Kc Q E hB H hw hP
  rw [eq_of_beq h1]
  refine N.eAttr (N.BinOp (N.List (N.cons (aB (wpAny_Constant_int (k := k0) (pos := pk) (N.nil (aB (wpAny_newObj_type ?_ (by show (#[_] : Array Value).size <= sizeLine; rw [sizeLine_eq]; simp))))))))) (dP (by rfl))
  have G0 := Grows.push s.heap (lob ([Value.int 0 s.toks].toArray) 0)
  have H0 := H.push (lob ([Value.int 0 s.toks].toArray) 0)
  have R0 : RV ρ σ (s.heap.push (lob ([Value.int 0 s.toks].toArray) 0)) (.ints [0]) (.ref s.heap.objs.size) := RV.ints (H.dyn.fresh (Nat.le_refl _)) (Heap.get?_push_size _ rfl) (.cons 0 s.toks .nil)
  refine hE 40 env _ _ h2 A (Fb.sh s (s.heap.push (lob ([Value.int 0 s.toks].toArray) 0)) (s.toks + 1)) ρ σ fr _ _ E hB H0 hw ?_
  intro av u BG AG hG tkG hk DG SG RG
  have HG := H0.step DG SG
  have R0' := R0.step SG
  refine bcn fun nG => ?_; obtain ⟨a0, vs0, n0, zq0⟩ := R0'.ints_inv; have e0 := zq0.1; have f0 := zq0.2.1; have g0 := zq0.2.2.1; have i0 := zq0.2.2.2
  refine nG ?_; cases e0
  obtain ⟨m', rfl, hk⟩ := gI hk
  obtain ⟨t, rfl⟩ := RG.int_inv
  obtain ⟨bv, hbl, hk⟩ : ∃ bv, fr[i]? = some bv /\ aBld bv _ := by
    cases e : fr[i]? with
    | none => rw [e] at hk; exact hk.elim
    | some b => rw [e] at hk; exact ⟨b, rfl, hk⟩
  obtain ⟨rfl, hk⟩ := aBld_inv hk
  refine bcn fun nG => ?_; obtain ⟨⟨b1, b2⟩, hk⟩ := hk
  have hv1 : vs0.size = 1 := by have := bI i0; simpa using this
  refine nG ?_; refine aB (raw_mul_list (s := (Fb.sh s hG tkG)) g0 (by lia) (by exact Int.lt_of_le_of_lt (by assumption) (by decide)) (by rw [hv1]; lia) ?_)
  have HH := HG.push (lob (List.foldl (fun x1 x2 => x1 ++ x2) #[] (List.replicate (if vs0.isEmpty = true then 0 else m'.toNat) vs0)) 0)
  have G2 := Grows.push hG (lob (List.foldl (fun x1 x2 => x1 ++ x2) #[] (List.replicate (if vs0.isEmpty = true then 0 else m'.toNat) vs0)) 0)
  have zq0 := loc_inv h3; have hi := zq0.1; have hv := zq0.2.1; have hd := zq0.2.2.1; have hcd := zq0.2.2.2; clear zq0
  refine aB (jB (s := (Fb.sh s (hG.push (lob (List.foldl (fun x1 x2 => x1 ++ x2) #[] (List.replicate (if vs0.isEmpty = true then 0 else m'.toNat) vs0)) 0)) tkG)) HH hi hv hbl (fun q => nomatch q) hd hcd fun v' r => ?_)
  cases r
  have zq0 := HG.new; have n1 := zq0.1; have n2 := zq0.2.1; have n3 := zq0.2.2.1; have n4 := zq0.2.2.2; clear zq0
  have DH := HH.dyn
  refine bcn fun nG => ?_; obtain ⟨sl, zq0⟩ := DG.ob; have e1 := zq0.1; have e2 := zq0.2.1; have e3 := zq0.2.2
  obtain ⟨mm, hn⟩ := HH.ns
  have hLb : env.locals ≠ BG.b := fun q => HH.offL.1 (q ▸ M_b)
  refine nG ?_; refine aB (iE (s := (Fb.sh s (hG.push (lob (List.foldl (fun x1 x2 => x1 ++ x2) #[] (List.replicate (if vs0.isEmpty = true then 0 else m'.toNat) vs0)) 0)) tkG)) (k := .cv) KF (T.X.keeps HH.st) (G2 _ _ e1) e2 (G2 _ _ DG.dx) hn hLb fun h' hn' e' keep => ?_)
  have keep1 : ∀ a o, a ≠ env.locals -> a ≠ BG.b -> hG.get? a = some o -> h'.get? a = some o := fun a o q1 q2 e => keep a o q1 q2 (G2 a o e)
  have hcL : hG.objs.size ≠ env.locals := by
    intro q; exact n2 (q ▸ .inl rfl)
  have hcb : hG.objs.size ≠ BG.b := fun q => n4 (q ▸ M_b)
  have ec := keep _ _ hcL hcb (Heap.get?_push_size hG (o := lob (List.foldl (fun x1 x2 => x1 ++ x2) #[] (List.replicate (if vs0.isEmpty = true then 0 else m'.toNat) vs0)) 0) rfl)
  have ii : IntsAre (List.foldl (fun x1 x2 => x1 ++ x2) #[] (List.replicate (if vs0.isEmpty = true then 0 else m'.toNat) vs0)).toList (List.replicate m'.toNat 0) := by
    have : vs0.isEmpty = false := by simp [Array.isEmpty, hv1]
    rw [foldl_app, this]
    simp only [Bool.false_eq_true, if_false, List.nil_append]
    have := ints_rep i0 m'.toNat
    simpa using this
  have zq0 := dyn_newcv DG HG.notSeq HG.offL.1 e1 e2 e' keep1 (eE ec) ii n1 n3; have D' := zq0.1; have S' := zq0.2; clear zq0
  have hn1 : ∀ mD, hG.Ns env.locals mD -> h'.Ns env.locals mD := by
    intro mD q
    have q2 : (hG.push (lob (List.foldl (fun x1 x2 => x1 ++ x2) #[] (List.replicate (if vs0.isEmpty = true then 0 else m'.toNat) vs0)) 0)).Ns env.locals mD := q.keeps G2
    rw [Ns.uniq q2 hn]; exact hn'
  have hLM : env.locals ∉ ({ BG with cv := some hG.objs.size } : Ad).M := by
    intro q
    simp only [Ad.M, List.mem_cons, List.mem_append, Option.mem_toList, Option.toList_some] at q
    have := HG.offL.1
    simp only [Ad.M, List.mem_cons, List.mem_append, Option.mem_toList] at this
    grind
  exact hP .next .next fr _ _ h' _ hk (HG.stepN D' S' hn1 hLM) ((((G0.stp (σ := σ) (ρ := ρ)).trans SG).weaken fun _ q => q.elim).trans (S'.weaken fun _ q => own_of_L q)) .next
theorem slice_some_some {A : Around} {E : Value -> Shared -> Prop} {s : Shared} {l h : Expr} {p : Pos} {Q : Value -> Shared -> Prop} (hh : wpN (model prog w) A (eval l env) (fun v sG => wpN (model prog w) A (eval h env) (fun u sH => Q (.ref sH.heap.objs.size) { sH with heap := sH.heap.push (sob v u .none) }) E sG) E s) :
    wpN (model prog w) A (eval (.Slice (some l) (some h) none p) env) Q E s := by
  show wpN _ A (do let l <- eval l env; let u <- holding [l] (eval h env); let s <- holding [l, u] (pure Value.none); newFields "slice" [l, u, s]) Q E s
  exact aA (aD hh (fun v sG hG => aA (aI (aD hG (fun u sH hH => aA (aI (aC (aB <| wpAny_newObj_type hH (by show (3 : Nat) <= _; rw [sizeLine_eq]; (exact Nat.le_add_left _ _)))))) fun _ _ x => x))) fun _ _ x => x)
section
variable {A : Around} {E : Value -> Shared -> Prop} {s : Shared} {ρ : Ad} {σ : St}
theorem setsl_op (hsb : SetB prog w lev) (hB : Bud lev A) {o a b x : AV} {v u1 u2 y : Value} {Kc : St -> Prop} {Q : Unit -> Shared -> Prop} (D : Dyn g ρ σ s.heap) (ro : RV ρ σ s.heap o v) (ra : RV ρ σ s.heap a u1) (rb : RV ρ σ s.heap b u2) (rx : RV ρ σ s.heap x y) (hw : wpSetsl o a b x σ Kc) (hP : PostT g ρ σ s Kc Q) :
    wpN (model prog w) A (setItem v (.ref s.heap.objs.size) y) Q E { s with heap := s.heap.push (sob u1 u2 .none) } := by
  obtain ⟨nn, rfl, hw⟩ := aBb_inv hw
  refine jC hw ra rb fun a b t3 t4 hw => ?_
  obtain ⟨w', rfl, ⟨q1, q2, q3, q4, q5⟩, hk⟩ := lV hw
  obtain rfl := ro.bb_inv q1
  obtain ⟨tb, rfl⟩ := rx.bytes_inv
  have G := Grows.push s.heap (sob (.int a t3) (.int b t4) .none)
  have DZ := D.grow G
  have ap := D.apart
  refine hsb A { s with heap := s.heap.push (sob (.int a t3) (.int b t4) .none) } ρ.ba s.heap.objs.size σ.bytes w' a t3 _ _ _ E hB DZ.ba (Heap.get?_push_size _ rfl) (.inl ⟨tb, rfl, b, t4, rfl, q3⟩) q2 (by lia) q5 ?_
  intro h' tk' e' keep
  obtain ⟨D', S'⟩ := lX (σ' := (σ.uBytes (aN σ.bytes a.toNat w'))) (h' := h') DZ M_ba ap.b.2.1.symm ap.dx.1.symm (fun x o ha e => keep x o ha e) ⟨rfl, rfl, rfl, rfl⟩ (fun k => by induction k using Sl.casesOn <;> rfl)
    (fun q => absurd rfl q) (fun _ => e') (fun _ => rfl) (fun q => absurd q ap.ba.1) (fun _ => rfl) (fun q => absurd rfl (ap.cv _ q).2.2.1) (fun _ => rfl) (fun q => absurd rfl (ap.tb _ q).2.2.1) (fun _ => rfl) (fun q => absurd rfl (ap.tl _ q).2.2.1)
    (fun _ => ⟨rfl, rfl⟩) (fun q => absurd q ap.ba.2.1) (fun _ => ⟨rfl, rfl⟩) (fun q => absurd q ap.ba.2.2)
  exact hP _ h' tk' hk D' (G.stp.trans S')
theorem setfrom_op (hsb : SetB prog w lev) (hB : Bud lev A) {o a x : AV} {v u1 y : Value} {Kc : St -> Prop} {Q : Unit -> Shared -> Prop} (D : Dyn g ρ σ s.heap) (ro : RV ρ σ s.heap o v) (ra : RV ρ σ s.heap a u1) (rx : RV ρ σ s.heap x y) (hw : wpSetfrom o a x σ Kc) (hP : PostT g ρ σ s Kc Q) :
    wpN (model prog w) A (setItem v (.ref s.heap.objs.size) y) Q E { s with heap := s.heap.push (sob u1 .none .none) } := by
  obtain ⟨nn, rfl, hw⟩ := aTb_inv hw
  refine int1 hw ra fun a t3 hw => ?_
  obtain ⟨mm, rfl, hw⟩ := aBb_inv hw
  have hT := D.tb
  induction hl : σ.tb using Option.casesOn with
  | none => rw [hl] at hw; exact hw.elim
  | some l =>
    rw [hl] at hT hw
    obtain ⟨⟨q1, q2, q3, q4, q5⟩, hk⟩ := hw
    induction hc : ρ.tb using Option.casesOn with
    | none => rw [hc] at hT; exact hT.elim
    | some c =>
      rw [hc] at hT
      obtain rfl := ro.tb_inv q1 c hc
      obtain rfl := rx.bb_inv q2
      have G := Grows.push s.heap (sob (.int a t3) .none .none)
      have DZ := D.grow G
      have apc := D.apart.tb c hc
      refine hsb A { s with heap := s.heap.push (sob (.int a t3) .none .none) } c s.heap.objs.size l σ.bytes a t3 _ _ _ E hB (G _ _ hT) (Heap.get?_push_size _ rfl) (.inr ⟨ρ.ba, rfl, fun q => apc.2.2.1 q.symm, DZ.ba, rfl, q4⟩) q3 (by (rw [q4]; lia)) q5 ?_
      intro h' tk' e' keep
      obtain ⟨D', S'⟩ := lX (σ' := (σ.uTb (some (aN l a.toNat σ.bytes)))) (h' := h') DZ (tbM (ρ := ρ) hc) apc.1 apc.2.1 (fun x o ha e => keep x o ha e) ⟨rfl, rfl, rfl, rfl⟩ (fun k => by induction k using Sl.casesOn <;> rfl)
        (fun _ => rfl) (fun q => absurd q apc.2.2.1) (fun _ => rfl) (fun q => absurd q apc.2.2.2.1) (fun _ => rfl) (fun q => absurd q apc.2.2.2.2.2.2.1) (fun q => absurd hc q) (fun _ => by rw [hc]; exact e') (fun _ => rfl) (fun q => absurd q apc.2.2.2.2.2.2.2)
        (fun _ => ⟨rfl, rfl⟩) (fun q => absurd q apc.2.2.2.2.1) (fun _ => ⟨rfl, rfl⟩) (fun q => absurd q apc.2.2.2.2.2.1)
      exact hP _ h' tk' hk D' (G.stp.trans S')
end
theorem setsl_st (hE : SndE prog w g lev vars W) (hsb : SetB prog w lev) {o' l' h' v : Expr} {ps pa pos : Pos} {o lo hi e : IE} (h1 : bV v = true) (h2 : chkE 40 vars env.scope v e = true) (h3 : chkE 40 vars env.scope o' o = true) (h4 : chkE 40 vars env.scope l' lo = true) (h5 : chkE 40 vars env.scope h' hi = true) :
    NodeS prog w g lev vars W env (.Assign [.Subscript o' (.Slice (some l') (some h') none ps) pa] v pos) (.setsl o lo hi e) := by
  intro A s ρ σ fr Kc Q E hB H hw hP
  refine N.eSub (hE 40 env _ _ h2 A s ρ σ fr _ _ E hB H hw ?_) (dP h1)
  intro av u BG AG hG tkG hk DG SG RG
  have HG := H.step DG SG
  refine hE 40 env _ _ h3 A (Fb.sh s hG tkG) BG AG fr _ _ E hB HG hk ?_
  intro bv u2 BH AH hH tkH hkG DH SH RH
  have HH := HG.step DH SH
  refine slice_some_some (hE 40 env _ _ h4 A (Fb.sh s hH tkH) BH AH fr _ _ E hB HH hkG ?_)
  intro cv u3 BW AJ hJ tkJ hkJ DJ SW RJ
  have HJ := HH.step DJ SW
  refine hE 40 env _ _ h5 A (Fb.sh s hJ tkJ) BW AJ fr _ _ E hB HJ hkJ ?_
  intro dv u4 BJ AW hW tkW hkH DW SJ RW
  refine setsl_op (s := (Fb.sh s hW tkW)) hsb hB DW ((RH.step SW).step SJ) (RJ.step SJ) RW (((RG.step SH).step SW).step SJ) hkH ?_
  intro AZ hZ tkZ hk DZ SZ
  exact hP .next .next fr BJ _ hZ tkZ hk ((HJ.step DW SJ).step DZ SZ) (((((SG.trans SH).trans SW).trans SJ).trans SZ).weaken fun _ q => q.elim) .next
theorem setfrom_st (hE : SndE prog w g lev vars W) (hsb : SetB prog w lev) {o' l' v : Expr} {ps pa pos : Pos} {o lo e : IE} (h1 : bV v = true) (h2 : chkE 40 vars env.scope v e = true) (h3 : chkE 40 vars env.scope o' o = true) (h4 : chkE 40 vars env.scope l' lo = true) :
    NodeS prog w g lev vars W env (.Assign [.Subscript o' (.Slice (some l') none none ps) pa] v pos) (.setfrom o lo e) := by
  intro A s ρ σ fr Kc Q E hB H hw hP
  refine N.eSub (hE 40 env _ _ h2 A s ρ σ fr _ _ E hB H hw ?_) (dP h1)
  intro av u BG AG hG tkG hk DG SG RG
  have HG := H.step DG SG
  refine hE 40 env _ _ h3 A (Fb.sh s hG tkG) BG AG fr _ _ E hB HG hk ?_
  intro bv u2 BH AH hH tkH hkG DH SH RH
  have HH := HG.step DH SH
  refine mP (hE 40 env _ _ h4 A (Fb.sh s hH tkH) BH AH fr _ _ E hB HH hkG ?_)
  intro cv u3 BW AJ hJ tkJ hkJ DJ SW RJ
  refine setfrom_op (s := (Fb.sh s hJ tkJ)) hsb hB DJ (RH.step SW) RJ ((RG.step SH).step SW) hkJ ?_
  intro AW hW tkW hk DW SJ
  exact hP .next .next fr BW _ hW tkW hk ((HH.step DJ SW).step DW SJ) ((((SG.trans SH).trans SW).trans SJ).weaken fun _ q => q.elim) .next
end
end Fb
namespace Fb
noncomputable abbrev Ad.wr (ρ : Ad) (r : List Addr) : Ad := { ρ with rs := r }
theorem RV.setrs {ρ : Ad} {σ : St} {h h' : Heap} {r : List Addr} (G : Grows h h') (hr : ∀ a o, h.get? a = some o -> a ∉ ρ.rs -> a ∉ r) {av : AV} {v : Value} (x : RV ρ σ h av v) : RV (ρ.wr r) σ h' av v :=
  RV.rec (ρ := ρ) (σ := σ) (h := h) (motive_1 := fun av v _ => RV (ρ.wr r) σ h' av v) (motive_2 := fun avs vs _ => RVs (ρ.wr r) σ h' avs vs)
    .none .bool .int .bytes .str .cst
    (fun f e hi => .ints ⟨f.1, hr _ _ e f.2⟩ (G _ _ e) hi)
    (fun f e _ hi => .lst ⟨f.1, hr _ _ e f.2⟩ (G _ _ e) hi)
    (fun f e hi => .itup ⟨f.1, hr _ _ e f.2⟩ (G _ _ e) hi)
    (fun f e _ hi => .tup ⟨f.1, hr _ _ e f.2⟩ (G _ _ e) hi)
    (fun f e => .barr ⟨f.1, hr _ _ e f.2⟩ (G _ _ e))
    .bld .pile .box .vts (fun a b => .bb a b) (fun a b => .tb a b) (fun a b => .tl a b) (fun a b => .cv a b)
    .nil (fun _ _ a b => .cons a b) x
theorem RV.unres {ρ : Ad} {σ : St} {h : Heap} {r : List Addr} (hr : ∀ a ∈ r, a ∈ ρ.rs) {av : AV} {v : Value} (x : RV ρ σ h av v) : RV (ρ.wr r) σ h av v :=
  x.setrs (Grows.refl h) fun _ _ _ n q => n (hr _ q)
theorem RVs.unres {ρ : Ad} {σ : St} {h : Heap} {r : List Addr} (hr : ∀ a ∈ r, a ∈ ρ.rs) {avs : List AV} : ∀ {vs : List Value}, RVs ρ σ h avs vs -> RVs (ρ.wr r) σ h avs vs := by
  induction avs with
  | nil => intro vs r; cases r; exact .nil
  | cons a as ih => intro vs r; cases r with | cons p q => exact .cons (p.unres hr) (ih q)
section
variable {g : Heap} {vars : List Str} {env : Env} {fr : List AV} {ρ : Ad} {σ : St} {h h' : Heap}
theorem Dyn.mapR {rs' : List Addr} (D : Dyn g ρ σ h) (G : Grows h h') (hr : ∀ {av v}, RV ρ σ h av v -> RV (ρ.wr rs') σ h' av v) (h1 : ∀ a ∈ ρ.M, a ∉ rs') (h2 : ∀ a ∈ rs', ∃ o, h'.get? a = some o /\ Seqy o) : Dyn g (ρ.wr rs') σ h' := by
  refine ⟨D.ob.imp fun sl q => ⟨G _ _ q.1, q.2.1, fun k hk => (q.2.2 k hk).imp fun v q => ⟨q.1, hr q.2⟩⟩, G _ _ D.dx, G _ _ D.ba, ?_, D.vd1, D.cv.keep fun b _ o q => G b o q, D.tb.keep fun b _ o q => G b o q, D.tl.keep fun b _ o q => G b o q, D.pl.imp fun pa q => q.imp fun t q => ⟨aU q.1 fun o q => G _ _ q, hr q.2⟩, D.bx.imp fun pa q => q.imp fun t q => ⟨aU q.1 fun o q => G _ _ q, hr q.2⟩, D.nodup, D.off, h1, h2⟩
  exact D.vd.imp fun o q => q.imp fun es q => q.imp fun n q => q.imp fun xs q => ⟨G _ _ q.1, q.2.1, q.2.2.1, q.2.2.2.1, q.2.2.2.2.1, q.2.2.2.2.2.1, fun x hx => hr (q.2.2.2.2.2.2 x hx)⟩
theorem Act.mapR {rs' : List Addr} (H : Act g ρ σ env vars fr h) (G : Grows h h') (hr : ∀ {av v}, RV ρ σ h av v -> RV (ρ.wr rs') σ h' av v) (h1 : ∀ a ∈ ρ.M, a ∉ rs') (h2 : ∀ a ∈ rs', ∃ o, h'.get? a = some o /\ Seqy o) : Act g (ρ.wr rs') σ env vars fr h' := by
  refine ⟨H.dyn.mapR G hr h1 h2, fun a o q => G a o (H.st a o q), H.ok, H.ns.imp fun m q => q.imp fun o q => q.imp fun es q => q.imp fun ep q => ⟨G _ _ q.1, q.2⟩, fun i y av hi hvis hf hu => (H.loc i y av hi hvis hf hu).imp fun v q => ⟨q.1.imp ?_ ?_, hr q.2⟩, H.offL, fun y c hc => (H.cells y c hc).imp (fun q => q.imp fun v q => q.imp fun oc q => ⟨G _ _ q.1, q.2⟩) id, H.cinj, H.cellOf⟩
  . exact fun q => ⟨q.1, q.2.imp fun m' q => ⟨q.1.imp fun o q => q.imp fun es q => q.imp fun ep q => ⟨G _ _ q.1, q.2⟩, q.2⟩⟩
  . exact fun q => ⟨q.1, q.2.imp fun c q => ⟨q.1, q.2.imp fun oc q => ⟨G _ _ q.1, q.2⟩⟩⟩
theorem Act.reserve {c : Addr} {o : Obj} (H : Act g ρ σ env vars fr h) (G : Grows h h') (hc : h.get? c = none) (e : h'.get? c = some o) (hs : Seqy o) : Act g (ρ.wr (c :: ρ.rs)) σ env vars fr h' :=
  H.mapR G (fun r => r.setrs G fun a o e n q => (List.mem_cons.mp q).elim (fun q => nomatch ((q ▸ hc).symm.trans e)) n) (fun a ha q => by
    rcases List.mem_cons.mp q with q | q
    . exact (H.dyn.notIn hc).1 (q ▸ ha)
    . exact H.dyn.rsoff a ha q) fun a ha => by
    rcases List.mem_cons.mp ha with q | q
    . exact ⟨o, q ▸ e, hs⟩
    . obtain ⟨o', zq0⟩ := H.dyn.rsin a q; have e' := zq0.1; have s' := zq0.2; exact ⟨o', G _ _ e', s'⟩
theorem Act.unres {r : List Addr} (H : Act g ρ σ env vars fr h) (hr : ∀ a ∈ r, a ∈ ρ.rs) : Act g (ρ.wr r) σ env vars fr h :=
  H.mapR (Grows.refl h) (fun x => RV.unres hr x) (fun a ha q => H.dyn.rsoff a ha (hr a q)) fun a ha => H.dyn.rsin a (hr a ha)
theorem Stp.unres {P : Addr -> Prop} {ρ' : Ad} {σ' : St} {c : List Addr} (S : Stp P (ρ.wr c) σ h ρ' σ' h') : Stp P ρ σ h (ρ'.wr ρ.rs) σ' h' :=
  ⟨S.b, S.dx, S.vd, S.pl, S.bx, rfl, S.ver, S.tbv, S.tlv, S.cvv, S.keep⟩
theorem Act.skipR {c : Addr} {o' : Obj} (H : Act g ρ σ env vars fr h) (k : ∀ a o, a ≠ c -> h.get? a = some o -> h'.get? a = some o) (hc : c ∈ ρ.rs) (e' : h'.get? c = some o') (hs : Seqy o') (hO : ¬ Own env c) (hg : g.get? c = none) :
    Act g ρ σ env vars fr h' /\ Stp (fun a => a = c) ρ σ h ρ σ h' /\ (∀ {av v}, RV ρ σ h av v -> RV ρ σ h' av v) /\ ∀ {av v}, RVs ρ σ h av v -> RVs ρ σ h' av v := by
  have S : Stp (fun a => a = c) ρ σ h ρ σ h' := Stp.but k
  have hR : ∀ a o, (fun a => a = c) a -> h.get? a = some o -> Seqy o -> a ∈ ρ.rs := by rintro a o rfl _ _; exact hc
  have hM : ∀ a ∈ ρ.M, a ≠ c := fun a ha q => H.dyn.rsoff a ha (q ▸ hc)
  have kM : ∀ a ∈ ρ.M, ∀ o, h.get? a = some o -> h'.get? a = some o := fun a ha o e => k a o (hM a ha) e
  have D := H.dyn
  refine bcn fun nG => ?_; obtain ⟨sl, zq0⟩ := D.ob; have f1 := zq0.1; have f2 := zq0.2.1; have f3 := zq0.2.2
  have D' : Dyn g ρ σ h' := by
    refine ⟨⟨sl, kM _ M_b _ f1, f2, fun k hk => ?_⟩, kM _ M_dx _ D.dx, kM _ M_ba _ D.ba, ?_, D.vd1, D.cv.keep fun b hb o e => kM b (cvM hb) o e, D.tb.keep fun b hb o e => kM b (tbM hb) o e, D.tl.keep fun b hb o e => kM b (tlM hb) o e, ?_, ?_, D.nodup, D.off, D.rsoff, fun a ha => ?_⟩
    . obtain ⟨v, zq0⟩ := f3 k hk; have a := zq0.1; have b := zq0.2; exact ⟨v, a, RV.monoR S hR b⟩
    . obtain ⟨o, es, n, xs, zq0⟩ := D.vd; have a := zq0.1; have b := zq0.2.1; have c := zq0.2.2.1; have d := zq0.2.2.2.1; have e' := zq0.2.2.2.2.1; have f := zq0.2.2.2.2.2.1; have r := zq0.2.2.2.2.2.2
      exact ⟨o, es, n, xs, kM _ M_vd _ a, b, c, d, e', f, fun x hx => RV.monoR S hR (r x hx)⟩
    . obtain ⟨pa, t, zq0⟩ := D.pl; have a := zq0.1; have b := zq0.2; exact ⟨pa, t, aU a (kM _ M_pl), RV.monoR S hR b⟩
    . obtain ⟨pa, t, zq0⟩ := D.bx; have a := zq0.1; have b := zq0.2; exact ⟨pa, t, aU a (kM _ M_bx), RV.monoR S hR b⟩
    . by_cases q : a = c
      . exact ⟨o', q ▸ e', hs⟩
      . obtain ⟨o, zq0⟩ := D.rsin a ha; have e := zq0.1; have q2 := zq0.2; exact ⟨o, k _ _ q e, q2⟩
  obtain ⟨m, o, es, ep, zq0⟩ := H.ns; have ho := zq0.1; have hd := zq0.2.1; have hk := zq0.2.2.1; have hm := zq0.2.2.2
  have hL : env.locals ≠ c := fun q => hO (q ▸ .inl rfl)
  have hC : ∀ y x, env.cells.lookup y = some x -> x ≠ c := fun y x hc q => hO (q ▸ .inr ⟨y, hc⟩)
  refine nG ?_; refine ⟨⟨D', S.stays H.st D.off (fun a q => q ▸ hg), H.ok, ⟨m, o, es, ep, k _ _ hL ho, hd, hk, hm⟩, fun i y av hi hvis hf hu => ?_, H.offL, fun y c hc => ?_, H.cinj, H.cellOf⟩, S, fun r => RV.monoR S hR r, fun r => RVs.monoR S hR r⟩
  . obtain ⟨v, zq0⟩ := H.loc i y av hi hvis hf hu; have hv := zq0.1; have r := zq0.2
    refine ⟨v, ?_, RV.monoR S hR r⟩
    rcases hv with ⟨k1, m', ⟨o', es', ep', ho', r'⟩, hm'⟩ | ⟨k1, c, hc, oc, ho', hd'⟩
    . exact .inl ⟨k1, m', ⟨o', es', ep', k _ _ hL ho', r'⟩, hm'⟩
    . exact .inr ⟨k1, c, hc, oc, k _ _ (hC y c hc) ho', hd'⟩
  . have zq0 := H.cells y c hc; obtain ⟨v, oc, zq1⟩ := zq0.1; have ho' := zq1.1; have hd' := zq1.2; have h2 := zq0.2.1; have h3 := zq0.2.2; clear zq0
    exact ⟨⟨v, oc, k _ _ (hC y c hc) ho', hd'⟩, h2, h3⟩
end
end Fb
set_option genInjectivity false
set_option genCtorIdx false
set_option genSizeOf false
namespace Fb
theorem pB {env : Env} : ∀ (names : List (Str × NameKind)) (acc : List (Str × Addr)), (∀ x ∈ names, x.2 = .free -> ∃ c, env.cells.lookup x.1 = some c) -> (∀ x c, acc.lookup x = some c -> env.cells.lookup x = some c) ->
    ∃ cl, (forIn names acc fun (x : Str × NameKind) (cs : List (Str × Addr)) => if (x.2 == NameKind.free) = true then do { let a <- cellOf env x.1; pure (ForInStep.yield ((x.1, a) :: cs)) } else pure (ForInStep.yield cs)) = (pure cl : Sem (List (Str × Addr))) /\
      (∀ x c, cl.lookup x = some c -> env.cells.lookup x = some c) /\ (∀ x c, acc.lookup x = some c -> cl.lookup x = some c) /\ ∀ x ∈ names, x.2 = .free -> ∃ c, cl.lookup x.1 = some c
  | [], acc, _, h => ⟨acc, rfl, h, fun _ _ e => e, fun _ q => nomatch q⟩
  | (n, k) :: r, acc, hf, h => by
    by_cases hk : k = .free
    . subst hk
      refine bcn fun nG => ?_; obtain ⟨c, hc⟩ := hf (n, .free) (.head _) rfl
      obtain ⟨cl, e1, e2, e3, e4⟩ := pB r ((n, c) :: acc) (fun x hx => hf x (.tail _ hx)) (fun x c' q => by
        rw [List.lookup_cons] at q
        induction hx : x == n using Bool.casesOn with
        | true => rw [hx] at q; (have e9 := Option.some.inj q; clear q; subst e9); rw [eq_of_beq hx]; exact hc
        | false => rw [hx] at q; exact h x c' q)
      have e0 : cellOf env n = pure c := by unfold cellOf; rw [hc]
      refine nG ?_; refine ⟨cl, ?_, e2, fun x c' q => ?_, fun x hx hxf => ?_⟩
      . rw [List.forIn_cons]
        simp only [beq_self_eq_true, if_true, e0, pure_bind]
        exact e1
      . by_cases hx : x == n
        . have := h x c' q
          have hxn := eq_of_beq hx
          subst hxn
          rw [hc] at this
          (have e9 := Option.some.inj this; clear this; subst e9)
          exact e3 x c (by rw [List.lookup_cons, beq_self_eq_true])
        . exact e3 x c' (by rw [List.lookup_cons]; simp only [hx]; exact q)
      . rcases List.mem_cons.mp hx with rfl | hx
        . exact ⟨c, e3 n c (by rw [List.lookup_cons, beq_self_eq_true])⟩
        . exact e4 x hx hxf
    . obtain ⟨cl, zq0⟩ := pB r acc (fun x hx => hf x (.tail _ hx)) h; have e1 := zq0.1; have e2 := zq0.2.1; have e3 := zq0.2.2.1; have e4 := zq0.2.2.2
      refine ⟨cl, ?_, e2, e3, fun x hx hxf => ?_⟩
      . rw [List.forIn_cons]
        have : (k == NameKind.free) = false := by simpa using hk
        simp only [this, Bool.false_eq_true, if_false, pure_bind]
        exact e1
      . rcases List.mem_cons.mp hx with rfl | hx
        . exact absurd hxf hk
        . exact e4 x hx hxf
theorem closure_ok {env : Env} {scope : Scope} (hf : ∀ x ∈ scope.names, x.2 = .free -> ∃ c, env.cells.lookup x.1 = some c) :
    ∃ cl, closureFor scope env = pure cl /\ (∀ x c, cl.lookup x = some c -> env.cells.lookup x = some c) /\ ∀ x ∈ scope.names, x.2 = .free -> ∃ c, cl.lookup x.1 = some c := by
  obtain ⟨cl, zq0⟩ := pB (env := env) scope.names [] hf (fun _ _ q => nomatch q); have e1 := zq0.1; have e2 := zq0.2.1; have e4 := zq0.2.2.2
  refine ⟨cl, ?_, e2, e4⟩
  unfold closureFor
  rw [<- e1]
  exact bind_pure _
theorem relabel_eq (sc' : Scope) (env : Env) : relabel sc' env = { sc' with names := eP env.scope sc' } := by
  unfold relabel eP
  congr 1
section
variable {prog : Program} {w : World} {g : Heap} {lev : Nat} {vars : List Str} {K : Frag} {Γ : Fns} {W : Wp} {env : Env} {m : Nat}
structure CompOk (vars : List Str) (env : Env) (i : Nat) (k : Str) (sc' : Scope) : Prop where
  hk : vars[i]? = some k
  loc : sc'.names.lookup k = some .local
  names : ∀ z ∈ sc'.names, (z.2 = .local /\ (z.1 = k \/ z.1 = (".0" : Str)) /\ sc'.names.lookup z.1 = some .local) \/ (z.2 = .free /\ env.scope.names.lookup z.1 = some .cell) \/ z.2 = .globalImplicit
  fn : sc'.kind = .function
  no0 : (".0" : Str) ∉ vars
theorem iN {α : Type} {x : Str} : ∀ {l : List (Str × α)} {v : α}, l.lookup x = some v -> ∃ y, y == x /\ (y, v) ∈ l
  | [], _, h => nomatch h
  | (y, u) :: r, v, h => by
    rw [List.lookup_cons] at h
    induction hx : x == y using Bool.casesOn with
    | true => rw [hx] at h; (have e9 := Option.some.inj h; clear h; subst e9); exact ⟨y, by rw [eq_of_beq hx]; exact beq_self_eq_true y, .head _⟩
    | false => rw [hx] at h; obtain ⟨z, zq0⟩ := iN h; have a := zq0.1; have b := zq0.2; exact ⟨z, a, .tail _ b⟩
theorem lookup_comp (sc sc' : Scope) (x : Str) : (eP sc sc').lookup x = (sc'.names.lookup x).map fun k => if (k == .free && sc.kind == .function && sc.names.lookup x == some .cell) = true then .cell else k := by
  unfold eP
  generalize sc'.names = l
  induction l with
  | nil => rfl
  | cons p r ih =>
    obtain ⟨n, k⟩ := p
    rw [List.map_cons]
    have hd : ∃ k', (if ((n, k).2 == .free && sc.kind == .function && sc.names.lookup (n, k).1 == some .cell) = true then ((n, k).1, NameKind.cell) else (n, k)) = (n, k') /\ k' = if (k == .free && sc.kind == .function && sc.names.lookup n == some .cell) = true then .cell else k := by
      by_cases hb : (k == .free && sc.kind == .function && sc.names.lookup n == some .cell) = true
      . exact ⟨.cell, by rw [if_pos hb], by rw [if_pos hb]⟩
      . exact ⟨k, by rw [if_neg hb], by rw [if_neg hb]⟩
    obtain ⟨k', e1, e2⟩ := hd
    rw [e1, List.lookup_cons, List.lookup_cons]
    induction hx : x == n using Bool.casesOn with
    | true =>
      rw [<- eq_of_beq hx] at e2
      simp only [Option.map_some, e2]
    | false => simp only [ih]
theorem comp_act {i : Nat} {k : Str} {sc' : Scope} {cl : List (Str × Addr)} {C : Addr} {ρ : Ad} {σ : St} {fr : List AV} {h : Heap} {mC : Str -> Option Value} {n : Int} {t : Tok} (nd : vars.Nodup) (O : CompOk vars env i k sc') (H : Act g ρ σ env vars fr h)
    (c1 : ∀ x c, cl.lookup x = some c -> env.cells.lookup x = some c) (c2 : ∀ x ∈ sc'.names, x.2 = .free -> ∃ c, cl.lookup x.1 = some c) (hn : h.Ns C mC) (hv : mC k = some (.int n t)) (hCM : C ∉ ρ.M) (hCg : g.get? C = none) :
    Act g ρ σ (compEnvC sc' cl C env) vars (fr.set i (.int n)) h := by
  have sc_eq := relabel_eq sc' env
  have kind : ∀ x, (compEnvC sc' cl C env).kindOf x = (sc'.names.lookup x).map fun k => if (k == .free && env.scope.kind == .function && env.scope.names.lookup x == some .cell) = true then .cell else k := by
    intro x
    show (relabel sc' env).names.lookup x = _
    rw [sc_eq]
    exact lookup_comp env.scope sc' x
  have sub : ∀ x kk, sc'.names.lookup x = some kk -> (kk = .local /\ (x = k \/ x = (".0" : Str))) \/ (kk = .free /\ env.scope.names.lookup x = some .cell /\ ∃ c, cl.lookup x = some c) \/ kk = .globalImplicit := by
    intro x kk hx
    obtain ⟨y, zq0⟩ := iN hx; have hy := zq0.1; have hm := zq0.2
    have := eq_of_beq hy
    subst this
    rcases O.names _ hm with ⟨a, b, _⟩ | ⟨a, b⟩ | a
    . exact .inl ⟨a, b⟩
    . exact .inr (.inl ⟨a, b, c2 _ hm a⟩)
    . exact .inr (.inr a)
  refine ⟨H.dyn, H.st, ⟨O.fn, H.ok.gl, H.ok.bi⟩, ⟨mC, hn⟩, fun j y av hj hvis hf hu => ?_, ⟨hCM, hCg⟩, fun x c hc => H.cells x c (c1 x c hc), fun x y c hx hy => H.cinj x y c (c1 _ _ hx) (c1 _ _ hy), fun x hx => ?_⟩
  . have hy0 : y ≠ (".0" : Str) := fun q => O.no0 (q ▸ List.mem_of_getElem? hj)
    have hkk : ∃ kk, sc'.names.lookup y = some kk := by
      rcases hvis with q | q | q <;> rw [kind] at q <;> cases hq : sc'.names.lookup y <;> rw [hq] at q <;> first | (exact nn q; done) | exact ⟨_, rfl⟩
    obtain ⟨kk, hkk⟩ := hkk
    rcases sub y kk hkk with ⟨a, b⟩ | ⟨a, b, c, hc⟩ | a
    . have hyk : y = k := b.resolve_right hy0
      subst hyk
      have hji : j = i := (List.getElem?_inj (List.getElem?_eq_some_iff.mp hj).1 nd).mp (hj.trans O.hk.symm)
      subst hji
      have hav : av = .int n := by
        rw [List.getElem?_set] at hf
        split at hf
        . split at hf <;> cases hf; rfl
        . rename_i q; exact absurd rfl q
      subst hav
      refine ⟨.int n t, .inl ⟨?_, mC, hn, hv⟩, .int _ _⟩
      rw [kind, hkk, a]; rfl
    . have hji : i ≠ j := by
        intro q; subst q
        rw [O.hk] at hj; (have e9 := Option.some.inj hj; clear hj; subst e9)
        rw [O.loc] at hkk; (have e9 := Option.some.inj hkk; clear hkk; subst e9); cases a
      have hf' : fr[j]? = some av := by rw [List.getElem?_set, if_neg hji] at hf; exact hf
      obtain ⟨v, zq0⟩ := H.loc j y av hj (.inr (.inl b)) hf' hu; have hh := zq0.1; have hr := zq0.2
      refine ⟨v, ?_, hr⟩
      have hkc : (compEnvC sc' cl C env).kindOf y = some .cell := by
        rw [kind, hkk, a]
        simp [H.ok.fn, b]
      rcases hh with ⟨q, _⟩ | ⟨_, c', hc', hcell⟩
      . have : env.kindOf y = some .cell := b
        rw [this] at q; exact nomatch q
      . rw [c1 _ _ hc] at hc'; (have e9 := Option.some.inj hc'; clear hc'; subst e9)
        exact .inr ⟨.inl hkc, c, hc, hcell⟩
    . subst a
      rcases hvis with q | q | q <;> rw [kind, hkk] at q <;> simp at q
  . rw [kind] at hx
    induction hq : sc'.names.lookup x using Option.casesOn with
    | none => rw [hq] at hx; exact nn hx
    | some kk =>
      rw [hq] at hx
      rcases sub x kk hq with ⟨a, b⟩ | ⟨a, b, c⟩ | a
      . subst a; simp at hx
      . exact c
      . subst a; simp at hx
end
end Fb
namespace Fb
section
variable {prog : Program} {w : World} {g : Heap} {lev : Nat} {vars : List Str} {K : Frag} {Γ : Fns} {W : Wp} {env : Env} {m : Nat}
theorem rng_cons (x left : Int) (h : 0 < left) : (List.range left.toNat).map (fun k : Nat => x + (k : Int)) = x :: (List.range (left - 1).toNat).map (fun k : Nat => x + 1 + (k : Int)) := by
  refine bcn fun nG => ?_; obtain ⟨n, hn⟩ : ∃ n : Nat, left.toNat = n + 1 := ⟨left.toNat - 1, by lia⟩
  have h2 : (left - 1).toNat = n := by lia
  refine nG ?_; rw [hn, h2, List.range_succ_eq_map, List.map_cons, List.map_map]
  congr 1
  . simp
  . apply List.map_congr_left
    intro k _
    simp only [Function.comp_apply, Nat.succ_eq_add_one, Int.natCast_add, Int.natCast_one]
    lia
theorem Act.gno {ρ : Ad} {σ : St} {fr : List AV} {h : Heap} (H : Act g ρ σ env vars fr h) {a : Addr} (ha : h.get? a = none) : g.get? a = none := by
  induction e : g.get? a using Option.casesOn with
  | none => rfl
  | some o => exact nomatch ha.symm.trans (H.st _ _ e)
theorem Act.ono {ρ : Ad} {σ : St} {fr : List AV} {h : Heap} (H : Act g ρ σ env vars fr h) {a : Addr} (ha : h.get? a = none) : ¬ Own env a := fun q => (H.own_at q).elim fun _ e => nomatch ha.symm.trans e
theorem it_seqy {h : Heap} {I : Addr} {x left : Int} (it : IsRangeIter h I x left 1) {o : Obj} (e : h.get? I = some o) : ¬ Seqy o := by
  rw [it] at e; cases e
  rintro (⟨_, _, q⟩ | ⟨_, _, q⟩) <;> cases q
theorem ns_seqy {h : Heap} {C : Addr} {m : Str -> Option Value} (hn : h.Ns C m) {o : Obj} (e : h.get? C = some o) : ¬ Seqy o := by
  refine bcn fun nG => ?_; obtain ⟨o', es, ep, ho, hd, _⟩ := hn
  refine nG ?_; rw [ho] at e; cases e
  rintro (⟨_, _, q⟩ | ⟨_, _, q⟩) <;> rw [hd] at q <;> cases q
theorem ns_keep {h h' : Heap} {C : Addr} {m : Str -> Option Value} (hn : h.Ns C m) (k : ∀ o, h.get? C = some o -> h'.get? C = some o) : h'.Ns C m :=
  hn.imp fun _ q => q.imp fun _ q => q.imp fun _ q => ⟨k _ q.1, q.2⟩
structure CSt (g : Heap) (vars : List Str) (env : Env) (fr : List AV) (ρ : Ad) (σ : St) (hs : Heap) (I D C : Addr) (ρ' : Ad) (σ' : St) (h' : Heap) (avs : List AV) (ys : List Value) (nn : Nat) : Prop where
  H : Act g ρ' σ' env vars fr h'
  S : Stp NoP (ρ.wr (D :: ρ.rs)) σ hs ρ' σ' h'
  eD : h'.get? D = some (lob (List.toArray ys) nn)
  r : RVs ρ' σ' h' avs ys
  iM : I ∉ ρ'.M
  cM : C ∉ ρ'.M
section
variable {fr : List AV} {ρ ρ' : Ad} {σ σ' : St} {hs h' : Heap} {I D C : Addr} {avs : List AV} {ys : List Value} {nn : Nat}
theorem CSt.skip (X : CSt g vars env fr ρ σ hs I D C ρ' σ' h' avs ys nn) (H0 : Act g ρ σ env vars fr hs) {b : Addr} {hH : Heap} (k : ∀ a o, a ≠ b -> h'.get? a = some o -> hH.get? a = some o) (hb : hs.get? b = none) (hM : b ∉ ρ'.M) (hS : ∀ {o}, h'.get? b = some o -> ¬ Seqy o) (hD : D ≠ b) : CSt g vars env fr ρ σ hs I D C ρ' σ' hH avs ys nn :=
  let T := X.H.skip k hM (H0.ono hb) (fun _ => hS) (H0.gno hb)
  ⟨T.1, X.S.skip k hb, k _ _ hD X.eD, RVs.mono T.2 (fun a o q e => hS (q ▸ e)) X.r, X.iM, X.cM⟩
theorem CSt.dM (X : CSt g vars env fr ρ σ hs I D C ρ' σ' h' avs ys nn) : D ∉ ρ'.M := fun q => X.H.dyn.rsoff _ q (by rw [X.S.rs]; exact .head _)
theorem CSt.step (X : CSt g vars env fr ρ σ hs I D C ρ' σ' h' avs ys nn) {BJ : Ad} {AW : St} {hW : Heap} (DW : Dyn g BJ AW hW) (SJ : Stp NoP ρ' σ' h' BJ AW hW) {o o' : Obj} (hI : h'.get? I = some o) (hC : h'.get? C = some o') : CSt g vars env fr ρ σ hs I D C BJ AW hW avs ys nn :=
  ⟨X.H.step DW SJ, X.S.trans SJ, (SJ.keep _ _ X.dM id X.eD).1, X.r.step SJ, (SJ.keep _ _ X.iM id hI).2, (SJ.keep _ _ X.cM id hC).2⟩
theorem CSt.done (X : CSt g vars env fr ρ σ hs I D C ρ' σ' h' avs ys nn) (hD : D ∉ ρ.rs) : RV (ρ'.wr ρ.rs) σ' h' (cC avs) (.ref D) := by
  have r := RVs.unres (r := ρ.rs) (fun a ha => by rw [X.S.rs]; exact .tail _ ha) X.r
  unfold cC
  induction e : dE avs using Option.casesOn with
  | some is => exact RV.ints ⟨X.dM, hD⟩ X.eD (nS r e)
  | none => exact RV.lst ⟨X.dM, hD⟩ X.eD r
theorem CSt.push (X : CSt g vars env fr ρ σ hs I D C ρ' σ' h' avs ys nn) (H0 : Act g ρ σ env vars fr hs) {av : AV} {v : Value} (R : RV ρ' σ' h' av v) (fD : hs.get? D = none) {hZ : Heap} (k : ∀ a o, a ≠ D -> h'.get? a = some o -> hZ.get? a = some o) (hDH : hZ.get? D = some (lob ((List.toArray ys).push v) (nn + 1))) : CSt g vars env fr ρ σ hs I D C ρ' σ' hZ (avs ++ [av]) (ys ++ [v]) (nn + 1) := by
  refine bcn fun nG => ?_; obtain ⟨HZ, TH, qH, qsH⟩ := X.H.skipR k (by rw [X.S.rs]; exact .head _) hDH (.inl ⟨_, _, rfl⟩) (H0.ono fD) (H0.gno fD)
  refine nG ?_; exact ⟨HZ, X.S.skip k fD, by rw [hDH, List.push_toArray], lY (qsH X.r) (.cons (qH R) .nil), X.iM, X.cM⟩
end
inductive CInv (g : Heap) (vars : List Str) (env : Env) (fr : List AV) (ρ : Ad) (σ : St) (s : Shared) (I D C : Addr) (f : List Int -> St -> List AV -> Prop) : Nat -> Shared -> Prop
  | mk {ρ' : Ad} {σ' : St} {h' : Heap} {tk : Nat} {avs : List AV} {ys : List Value} {nn : Nat} {mC : Str -> Option Value} {x left : Int} : CSt g vars env fr ρ σ s.heap I D C ρ' σ' h' avs ys nn -> avs.length + left.toNat <= 1000 -> IsRangeIter h' I x left 1 -> 0 <= left -> h'.Ns C mC ->
    f ((List.range left.toNat).map fun j : Nat => x + (j : Int)) σ' avs -> CInv g vars env fr ρ σ s I D C f left.toNat (Fb.sh s h' tk)
@[elab_as_elim] theorem CInv.el {fr : List AV} {ρ : Ad} {σ : St} {s : Shared} {I D C : Addr} {f : List Int -> St -> List AV -> Prop} {G : Nat -> Shared -> Prop} {n : Nat} {s' : Shared} (X : CInv g vars env fr ρ σ s I D C f n s')
    (k : ∀ (ρ' : Ad) (σ' : St) (h' : Heap) (tk : Nat) (avs : List AV) (ys : List Value) (nn : Nat) (mC : Str -> Option Value) (x left : Int), CSt g vars env fr ρ σ s.heap I D C ρ' σ' h' avs ys nn -> avs.length + left.toNat <= 1000 -> IsRangeIter h' I x left 1 -> 0 <= left -> h'.Ns C mC ->
      f ((List.range left.toNat).map fun j : Nat => x + (j : Int)) σ' avs -> G left.toNat (Fb.sh s h' tk)) : G n s' :=
  match X with
  | .mk a b c d e i => k _ _ _ _ _ _ _ _ _ _ a b c d e i
theorem toNat_pred {n : Int} (h : 0 < n) : (n - 1).toNat < n.toNat := by lia
set_option tactic.hygienic true in
theorem comp_block (nd : vars.Nodup) (hE : SndE prog w g lev vars W) {i : Nat} {k : Str} {pk pos : Pos} {sc' : Scope} {elt' iter : Expr} {elt : IE} {cl : List (Str × Addr)} {n : Int} {A : Around} {E : Value -> Shared -> Prop} {s : Shared} {tkD : Nat} {ρ : Ad} {σ : St} {fr : List AV} {Kc : List AV -> St -> Prop} {RR : Value -> Addr -> Result -> Shared -> Prop}
    (O : CompOk vars env i k sc') (hce : chkE m vars { sc' with names := eP env.scope sc' } elt' elt = true)
    (c1 : ∀ x c, cl.lookup x = some c -> env.cells.lookup x = some c) (c2 : ∀ x ∈ sc'.names, x.2 = .free -> ∃ c, cl.lookup x.1 = some c)
    (hn0 : 0 <= n) (hn1 : n <= 1000) (hB : Bud lev A) (H : Act g ρ σ env vars fr s.heap) (hw : kT (W.e elt) i fr (jM 0 n) σ [] Kc)
    (hRR : ∀ D C h' tk m' ρ' σ' avs, Kc avs σ' -> Act g ρ' σ' env vars fr h' -> Stp NoP ρ σ s.heap ρ' σ' h' -> RV ρ' σ' h' (cC avs) (.ref D) -> h'.Ns C m' -> C ∉ ρ'.M -> ¬ Own env C -> g.get? C = none -> s.heap.get? C = none -> RR (.ref D) C (.ok .next) (Fb.sh s h' tk)) :
    wpN (model prog w) A (newList []) (fun acc sJ => wpN (model prog w) A (newFunctionEnv sc' env.globals cl [] env.qual none .none (some env)) (fun cenv sW =>
      bQ (model prog w) A (.compStart (.ListComp elt' [⟨.Name k pk, iter, [], 0⟩] sc' pos) 0 (.ref s.heap.objs.size) acc { cenv with scope := relabel sc' env }) (RR acc cenv.locals) sW) E sJ) E
      (Fb.sh s (s.heap.push { cls := .type "range_iterator", data := .fields #[rawInt 0, rawInt n, rawInt 1] }) tkD) := by
  have hcell : ∀ y ∈ sc'.names, y.2 ≠ .cell := by
    intro y hy q
    rcases O.names y hy with ⟨a, _⟩ | ⟨a, _⟩ | a <;> rw [a] at q <;> exact nomatch q
  refine aB (wpAny_newObj_type (aB (wpAny_newFunctionEnv hcell (by intro y hy; simp at hy) (fun hG hnsG hsbG => ?_) O.fn)))
  dsimp only at hnsG hsbG ⊢
  generalize hH1 : s.heap.push { cls := .type "range_iterator", data := .fields #[rawInt 0, rawInt n, rawInt 1] } = H1 at hnsG hsbG ⊢
  have hD1 : H1.objs.size = s.heap.objs.size + 1 := by rw [<- hH1, Heap.size_push]
  generalize hH2 : H1.push { cls := .type "list", dict := none, data := .seq ([] : List Value).toArray } = H2 at hnsG hsbG ⊢
  have hC : H2.objs.size = s.heap.objs.size + 2 := by rw [<- hH2, Heap.size_push, hD1]
  generalize hI : s.heap.objs.size = I at *
  generalize hD : H1.objs.size = D at *
  generalize hCC : H2.objs.size = C at *
  have hDC : D ≠ C := by rw [hD1, hC]; exact Nat.ne_of_lt (Nat.lt_succ_self _)
  have hIC : I ≠ C := by rw [hC]; exact Nat.ne_of_lt (Nat.lt_succ_of_lt (Nat.lt_succ_self _))
  have hDI : D ≠ I := by rw [hD1]; exact Nat.succ_ne_self _
  have fresh : ∀ a, I <= a -> s.heap.get? a = none := fun a ha => by
    induction e : s.heap.get? a using Option.casesOn with
    | none => rfl
    | some o' => exact absurd (Heap.lt_size e) (Nat.not_lt.mpr (by rw [hI]; exact ha))
  have fI := fresh I (Nat.le_refl _)
  have fD := fresh D (by rw [hD1]; exact Nat.le_succ _)
  have fC := fresh C (by rw [hC]; exact Nat.le_add_right _ _)
  have old : Grows s.heap hG := fun b o e => hsbG.extBut b o (fun q => by rw [q, fC] at e; exact nn e) (Heap.get?_push_of_some _ (hH2 ▸ Heap.get?_push_of_some _ (hH1 ▸ Heap.get?_push_of_some _ e)))
  have hit : IsRangeIter hG I 0 n 1 := hsbG.extBut _ _ hIC (Heap.get?_push_of_some _ (by rw [<- hH2]; exact Heap.get?_push_of_some _ (by rw [<- hH1, <- hI]; exact Heap.get?_push_size _ rfl)))
  have hacc : hG.get? D = some (lob #[] 0) := hsbG.extBut _ _ hDC (Heap.get?_push_of_some _ (by rw [<- hH2, <- hD]; exact Heap.get?_push_size _ rfl))
  have HG := H.reserve (c := D) old fD hacc (.inl ⟨_, _, rfl⟩)
  clear hsbG hH1 hH2 fresh hcell
  have loop : bQ (model prog w) A (.compLoop (.ListComp elt' [⟨.Name k pk, iter, [], 0⟩] sc' pos) 0 (.ref I) (.ref D) (compEnvC sc' cl C env)) (RR (.ref D) C) (Fb.sh s hG (tkD + ([] : List (Str × Value)).length)) := by
    refine N.compLoop (CInv g vars env fr ρ σ s I D C fun ks σ' avs => kT (W.e elt) i fr ks σ' avs Kc) (fun cnt s' inv => ?_) n.toNat
      (.mk ⟨HG, old.stp, hacc, .nil, (H.dyn.notIn fI).1, (H.dyn.notIn fC).1⟩ ?_ hit hn0 hnsG (by simpa [jM] using hw)) (fun _ => rfl)
    . clear hit hacc HG hnsG old hw
      refine inv.el ?_
      intro ρ' σ' h' tk avs ys nn mC x left X hlen itI hl0 hnC hw'
      by_cases hz : 0 < left
      . rw [rng_cons x left hz] at hw'
        refine aB (wpAny_pyNext_range_item itI hz ?_)
        intro hH itH sbG
        have XG := X.skip H (fun a o ha e => (sbG.2 a ha).trans e) fI X.iM (it_seqy itI) hDI
        have hnCG := ns_keep hnC fun o e => (sbG.2 C (Ne.symm hIC)).trans e
        refine aB (wpAny_assign_Name (wpAny_storeName_local (lookup_relabel_local O.loc) hnCG (fun hJ hnG hsG => ?_) (by simp [compEnvC, relabel, O.fn])))
        have XJ := XG.skip H (fun a o ha e => (hsG.2 a ha).trans e) fC X.cM (ns_seqy hnCG) hDC
        have itG := (hsG.2 I hIC).trans itH
        refine hE m (compEnvC sc' cl C env) elt' elt (by show chkE m vars (relabel sc' env) elt' elt = true; rw [relabel_eq]; exact hce) A (Fb.sh s hJ _) ρ' σ' (fr.set i (.int x)) _ _ _ hB (comp_act (t := tk) nd O XJ.H c1 c2 hnG (by simp) X.cM (H.gno fC)) hw' ?_
        intro av v BJ AW hW tkW hkH DW SJ RW
        obtain ⟨oC, rest⟩ := hnG
        have hoC := rest.choose_spec.choose_spec.1
        have XH := XJ.step DW SJ itG hoC
        refine aB (append_at (hsz := by show ys.toArray.size <= sizeLine; rw [List.size_toArray, sizeLine_eq, dB XH.r]; lia) XH.eD fun hZ hsH hDH => ?_)
        have itJ := (hsH.2 I (Ne.symm hDI)).trans (SJ.keep _ _ X.iM id itG).1
        have nH := ns_keep ⟨oC, rest⟩ fun o e => (hsH.2 C (Ne.symm hDC)).trans (SJ.keep _ _ X.cM id e).1
        refine ⟨_, toNat_pred hz, .mk (XH.push H RW fD (fun a o ha e => (hsH.2 a ha).trans e) hDH) ?_ itJ (by clear hkH itG itH hw' hlen; lia) nH hkH⟩
        rw [List.length_append, List.length_singleton]; lia
      . have hlz : left.toNat = 0 := by lia
        rw [hlz] at hw'
        refine aB (wpAny_pyNext_range_end hB.hd itI (by (clear hl0; lia)) ?_)
        intro hH eG
        have XG := X.skip H eG fI X.iM (it_seqy itI) hDI
        exact hRR D C hH _ mC (ρ'.wr ρ.rs) σ' avs hw' (XG.H.unres fun a ha => by rw [X.S.rs]; exact .tail _ ha) XG.S.unres (XG.done (H.dyn.notIn fD).2) (ns_keep hnC fun o e => eG C o (Ne.symm hIC) e) X.cM (H.ono fC) (H.gno fC) fC
    . show 0 + n.toNat <= 1000
      lia
  refine N.compStart loop ?_
  have W0 := LCg.range_walks (prog := prog) (w := w) (A := A) (I := I) hB.hd 0 n.toNat
  refine aB (W0.self 0 _ _ _ ?_ loop)
  have e1 : (0 + ((0 : Nat) : Int) * 1) = 0 := by simp
  have e2 : ((n.toNat : Int) - ((0 : Nat) : Int)) = n := by lia
  show IsRangeIter hG I (0 + ((0 : Nat) : Int) * 1) ((n.toNat : Int) - ((0 : Nat) : Int)) 1
  rw [e1, e2]; exact hit
end
end Fb
namespace Fb
section
variable {prog : Program} {w : World} {g : Heap} {lev : Nat} {vars : List Str} {K : Frag} {Γ : Fns} {W : Wp} {env : Env} {m : Nat}
set_option tactic.hygienic true in
theorem comp_any (T : Stat K g) (KF : KFacts K) (nd : vars.Nodup) (hE : SndE prog w g lev vars W) {i : Nat} {k r : Str} {pk pr pc pos pos' : Pos} {sc' : Scope} {elt' y : Expr} {elt n : IE} {A : Around} {E : Value -> Shared -> Prop} {s : Shared} {ρ : Ad} {σ : St} {fr : List AV} {Kc : List AV -> St -> Prop} {use : Option (Value -> Sem Unit)} {Q : Value -> Shared -> Prop}
    (O : CompOk vars env i k sc') (hce : chkE m vars { sc' with names := eP env.scope sc' } elt' elt = true) (h2 : dO 9 r (env.scope.names.lookup r) = true) (h2' : aS y = true) (h3 : chkE m vars env.scope y n = true)
    (hB : Bud lev A) (H : Act g ρ σ env vars fr s.heap) (hw : W.e n fr σ fun x AG => aInt x fun m => (0 <= m /\ m <= 1000) /\ kT (W.e elt) i fr (jM 0 m) AG [] Kc)
    (hRR : ∀ D C h' tk m' ρ' σ' avs BG AG hb, Kc avs σ' -> Act g ρ' σ' env vars fr h' -> Stp NoP ρ σ s.heap BG AG hb -> hb.get? C = none -> Stp NoP BG AG hb ρ' σ' h' -> RV ρ' σ' h' (cC avs) (.ref D) -> h'.Ns C m' -> C ∉ ρ'.M -> ¬ Own env C -> g.get? C = none ->
      N.cPost (model prog w) A E use Q (.ref D) C (Fb.sh s h' tk)) :
    wpN (model prog w) A (comprehension (.ListComp elt' [⟨.Name k pk, .Call (.Name r pr) [y] [] pc, [], 0⟩] sc' pos) sc' env pos' (newList []) false (eval (.Call (.Name r pr) [y] [] pc) env) use) Q E s := by
  have hfree : ∀ x ∈ sc'.names, x.2 = .free -> ∃ c, env.cells.lookup x.1 = some c := by
    intro x hx hf
    rcases O.names x hx with ⟨a, _⟩ | ⟨_, b⟩ | a
    . rw [a] at hf; cases hf
    . exact H.cellOf _ b
    . rw [a] at hf; cases hf
  obtain ⟨cl, zq0⟩ := closure_ok hfree; have hcl := zq0.1; have c1 := zq0.2.1; have c2 := zq0.2.2
  have hnames : ∀ x ∈ sc'.names, x.2 = .local -> sc'.names.lookup x.1 = some .local := by
    intro x hx hl
    rcases O.names x hx with ⟨_, _, c⟩ | ⟨a, _⟩ | a
    . exact c
    . rw [a] at hl; cases hl
    . rw [a] at hl; cases hl
  have hca : aZ (chkE m vars env.scope) [y] [n] = true := by simp [aZ, h2', h3]
  have zq0 := dY h2; obtain ⟨v, hv⟩ := zq0.1; have hkk := zq0.2.1; have hpn := zq0.2.2; clear zq0
  have hve : v = .cst (.type "range") := by
    have : bN[9]? = some (Str.ofString "range", .cst (.type "range")) := rfl
    rw [this] at hv; cases hv; rfl
  subst hve
  refine N.comp rfl (fun _ => rfl) hcl O.fn hnames (fV hca (aB (eL T KF H hv hkk (bF hpn).1 fun f rf => ?_)))
  cases rf
  refine aX (P := fun _ => True) (cP "range") (N.cons (hE m env _ _ h3 A s ρ σ fr _ _ E hB H hw ?_))
  intro av u BG AG hG tkG hk DG SG RG
  have HG := H.step DG SG
  refine N.nil ⟨trivial, ?_⟩
  obtain ⟨mm, rfl, hk⟩ := gI hk
  obtain ⟨t, rfl⟩ := RG.int_inv
  obtain ⟨⟨o1, o2⟩, hk⟩ := hk
  refine aB (call_range_1 (s := (Fb.sh s hG tkG)) ?_)
  refine aB (wpAny_pyIter_range (IsRange.new ..) (small_one (by lia) (by exact Int.natCast_nonneg _) (by lia) (by exact Int.lt_of_le_of_lt (by assumption) (by decide))) ?_)
  have hsz : Builtin.Range.rangeSize 0 mm 1 = mm := by rw [rangeSize_one]; split <;> lia
  rw [hsz]
  have G := Grows.push hG { cls := .type "range", data := .fields #[.int 0 tkG, .int mm t, .int 1 (tkG + 1)] }
  have HH := HG.push { cls := .type "range", data := .fields #[.int 0 tkG, .int mm t, .int 1 (tkG + 1)] }
  refine comp_block (RR := fun acc C r s' => match r with | .ok _ => N.cPost (model prog w) A E use Q acc C s' | .error _ => False) (s := (Fb.sh s (hG.push { cls := .type "range", data := .fields #[.int 0 tkG, .int mm t, .int 1 (tkG + 1)] }) (tkG + 1 + 1))) nd hE O hce c1 c2 o1 o2 hB HH hk ?_
  intro D C h' tk m' ρ' σ' avs q1 q2 q3 q4 q5 q6 q7 q8 q9
  exact hRR D C h' tk m' ρ' σ' avs BG AG _ q1 q2 (SG.trans G.stp) q9 q3 q4 q5 q6 q7 q8
theorem compOk_of {i n : Nat} {e : Expr} {nn elt : IE} (hc : chkE (n + 1) vars env.scope e (.comp i nn elt) = true) :
    ∃ x k pk r pr y pc sc' pos, e = .ListComp x [⟨.Name k pk, .Call (.Name r pr) [y] [] pc, [], 0⟩] sc' pos /\ CompOk vars env i k sc' /\ chkE n vars { sc' with names := eP env.scope sc' } x elt = true /\ dO 9 r (env.scope.names.lookup r) = true /\ aS y = true /\ chkE n vars env.scope y nn = true := by
  refine onComp_el hc fun x gs sc' p h1 => ?_
  refine bW h1 fun gn h2 => ?_
  refine onGen_el h2 fun t it h3 => ?_
  refine aV h3 fun k pk h4 => ?_
  refine bA h4 fun rf ys pc h5 => ?_
  refine aV h5 fun r pr h6 => ?_
  refine bW h6 fun y h7 => ?_
  refine bcn fun nG => ?_; obtain ⟨h8, a9⟩ := an h7
  obtain ⟨h9, a8⟩ := an h8
  obtain ⟨hA, a7⟩ := an h9
  obtain ⟨hB, a6⟩ := an hA
  obtain ⟨hC, a5⟩ := an hB
  obtain ⟨hD, a4⟩ := an hC
  obtain ⟨hE, a3⟩ := an hD
  obtain ⟨a1, a2⟩ := an hE
  refine nG ?_; refine ⟨_, _, _, _, _, _, _, _, _, rfl, ⟨?_, ?_, ?_, ?_, ?_⟩, a9, a2, a3, a4⟩
  . induction hq : vars[i]? using Option.casesOn with
    | none => rw [hq] at a1; exact ff a1
    | some y => rw [hq] at a1; rw [eq_of_beq a1]
  . simpa using a5
  . intro z hz
    have := List.all_eq_true.mp a6 z hz
    simp only [Bool.or_eq_true, Bool.and_eq_true, beq_iff_eq] at this
    rcases this with (⟨⟨b1, b2⟩, b3⟩ | ⟨b1, b2⟩) | b
    . exact .inl ⟨b1, b2, b3⟩
    . exact .inr (.inl ⟨b1, b2⟩)
    . exact .inr (.inr b)
  . simpa using a7
  . intro q
    simp only [Bool.not_eq_true', List.contains_eq_mem, decide_eq_false_iff_not] at a8
    exact a8 q
theorem comp_node (T : Stat K g) (KF : KFacts K) (nd : vars.Nodup) (hE : SndE prog w g lev vars W) (m : Nat) (env : Env) (e : Expr) (i : Nat) (n elt : IE) (hc : chkE m vars env.scope e (.comp i n elt) = true) : NodeE prog w g lev vars Γ W env e (.comp i n elt) := by
  induction m using Nat.casesOn with
  | zero => exact ff hc
  | succ m =>
    obtain ⟨x, k, pk, r, pr, y, pc, sc', pos, rfl, O, b1, b2, b3, b4⟩ := compOk_of hc
    intro A s ρ σ fr Kc Q E hB H hw hP
    rw [eval_ListComp]
    refine comp_any (use := none) (Kc := fun vs AH => Kc (cC vs) AH) T KF nd hE O b1 b2 b3 b4 hB H hw ?_
    intro D C h' tk m' ρ' σ' avs BG AG hb q1 q2 q3 q4 q5 q6 q7 q8 q9 q10
    refine ⟨m', q7, fun h'' hs'' => ?_⟩
    have kk : ∀ a o, a ≠ C -> h'.get? a = some o -> h''.get? a = some o := fun a o ha e => (hs''.2 a ha).trans e
    have hCS : ∀ o, h'.get? C = some o -> ¬ Seqy o := fun _ e => ns_seqy q7 e
    obtain ⟨HH, TG⟩ := q2.skip kk q8 q9 hCS q10
    exact hP _ _ ρ' σ' h'' tk q1 HH.dyn (q3.trans (q5.skip kk q4)) (RV.mono TG (by rintro a o rfl e; exact hCS o e) q6)
theorem asgc_st (T : Stat K g) (KF : KFacts K) (nd : vars.Nodup) (hE : SndE prog w g lev vars W) {x : Str} {px pos : Pos} {v : Expr} {i j : Nat} {n elt : IE} (h1 : stAt vars env.scope i x = true) (hc : chkE 40 vars env.scope v (.comp j n elt) = true) :
    NodeS prog w g lev vars W env (.Assign [.Name x px] v pos) (.asgc i j n elt) := by
  intro A s ρ σ fr Kc Q E hB H hw hP
  refine bcn fun nG => ?_; obtain ⟨hi, hk, hn⟩ := iZ h1
  have hc' := hc
  refine nG ?_; obtain ⟨x', k, pk, r, pr, y, pc, sc', pos', rfl, O, b1, b2, b3, b4⟩ := compOk_of (n := 39) hc'
  have hsw : ∃ b : Bool, swapsWith (.ListComp x' [⟨.Name k pk, .Call (.Name r pr) [y] [] pc, [], 0⟩] sc' pos') (some (.Name x px)) pos.line env = pure b := ⟨_, rfl⟩
  refine bcn fun nG => ?_; obtain ⟨b, hsw⟩ := hsw
  refine nG ?_; induction b using Bool.casesOn with
  | false =>
    refine N.eName (comp_node (Γ := fun _ _ _ _ => False) T KF nd hE 40 env _ j n elt hc A s ρ σ fr (fun v AG => Kc .next (fr.set i v) AG) _ E hB H hw ?_) hsw
    intro av u BG AG hG tkG hk' DG SG RG
    refine aB (eM (s := (Fb.sh s hG tkG)) (H.step DG SG) hi nd hk RG ?_)
    intro hH tkH HH SH
    exact hP .next .next _ BG AG hH tkH hk' HH ((SG.weaken fun _ q => q.elim).trans SH) .next
  | true =>
    rw [exec_Assign_Name_used _ _ _ _ hsw]
    refine aA (aK (aA ?_))
    show wpN _ A (do let _ <- comprehension (.ListComp x' [⟨.Name k pk, .Call (.Name r pr) [y] [] pc, [], 0⟩] sc' pos') sc' env _ (newList []) false (eval (.Call (.Name r pr) [y] [] pc) env) (some (assign (.Name x px) env))) _ _ s
    refine aA (aD (comp_any (use := some (assign (.Name x px) env)) (Q := fun _ s' => Q .next s') (Kc := fun vs AH => Kc .next (fr.set i (cC vs)) AH) T KF nd hE O b1 b2 b3 b4 hB H hw ?_) (fun _ s' hq => aC (aC hq)) fun _ _ e => e)
    intro D C h' tk m' ρ' σ' avs BG AG hb q1 q2 q3 q4 q5 q6 q7 q8 q9 q10
    show wpN _ A (assign (.Name x px) env (.ref D)) _ _ _
    refine aB <| assign_Name (eM (s := (Fb.sh s h' tk)) q2 hi nd hk q6 ?_)
    intro hH tkH HH SH
    refine bcn fun nG => ?_; obtain ⟨oC, esC, epC, hoC, hdC, hkC, hmC⟩ := q7
    have eC := SH.keep _ _ q8 q9 hoC
    refine nG ?_; refine ⟨m', ⟨oC, esC, epC, eC.1, hdC, hkC, hmC⟩, fun h'' hs'' => ?_⟩
    have kk : ∀ a o, a ≠ C -> hH.get? a = some o -> h''.get? a = some o := fun a o ha e => (hs''.2 a ha).trans e
    have hCS : ∀ o, hH.get? C = some o -> ¬ Seqy o := by
      intro o e; rw [eC.1] at e; (have e9 := Option.some.inj e; clear e; subst e9)
      rintro (⟨_, _, q⟩ | ⟨_, _, q⟩) <;> rw [hdC] at q <;> exact nomatch q
    refine bcn fun nG => ?_; obtain ⟨HJ, TJ⟩ := HH.skip kk eC.2 q9 hCS q10
    refine nG ?_; exact hP .next .next _ ρ' σ' h'' tkH q1 HJ ((q3.weaken fun _ q => q.elim).trans (((q5.weaken fun _ q => q.elim).trans SH).skip kk q4)) .next
end
end Fb
namespace Fb
section
variable {prog : Program} {w : World} {g : Heap} {lev : Nat} {vars : List Str} {K : Frag} {Γ : Fns} {W : Wp}
theorem stNodes (T : Stat K g) (KF : KFacts K) (nd : vars.Nodup) (hnb : NewTb prog w lev) (hsb : SetB prog w lev) (hE : SndE prog w g lev vars W) (hT : SndT prog w g lev vars W) (hS : SndS prog w g lev vars W) :
    ∀ (m : Nat) (env : Env) (st : Stmt) (ir : IS), chkS m vars env.scope st ir = true -> NodeS prog w g lev vars W env st ir := by
  intro m env st ir hc
  induction m using Nat.casesOn with
  | zero => exact ff hc
  | succ m =>
    cases ir with
    | bad => intro A s ρ σ fr Kc Q E hB H hw hP; exact hw.elim
    | expr e => refine onExprS_el hc fun v p h => ?_; exact expr_st hE (an h).1 (an h).2
    | asg i e =>
      refine bU hc fun t v p h1 => ?_
      refine aV h1 fun x q h => ?_
      exact asg_st nd hE (an (an h).1).1 (an (an h).1).2 (an h).2
    | sets k o e =>
      refine bU hc fun t v p h1 => ?_
      refine bK h1 fun o' a q h => ?_
      obtain ⟨h3, h4⟩ := an h
      obtain ⟨h5, h6⟩ := an h3
      exact sets_st T KF hE (an h5).1 (an h5).2 h6 h4
    | newcv i m' =>
      refine bU hc fun t v p h1 => ?_
      refine bK h1 fun o' a q h2 => ?_
      refine aV h2 fun x q2 h3 => ?_
      refine onBin_el h3 fun l op y q3 h4 => ?_
      refine fO h4 fun zs q4 h5 => ?_
      refine bW h5 fun z h6 => ?_
      refine eI h6 fun c k0 q5 h7 => ?_
      obtain ⟨h8, e7⟩ := an h7
      obtain ⟨h9, e6⟩ := an h8
      obtain ⟨hA, e5⟩ := an h9
      obtain ⟨hB, e4⟩ := an hA
      obtain ⟨hC, e3⟩ := an hB
      have e3' := isC_eq e3
      have e4' := nW e4
      subst e3' e4'
      exact newcv_st T KF hE (an hC).1 (an hC).2 ((Bool.and_eq_true _ _).mpr ⟨(Bool.and_eq_true _ _).mpr ⟨e5, e6⟩, e7⟩)
    | newtl i =>
      refine bU hc fun t v p h1 => ?_
      refine aV h1 fun x q h2 => ?_
      refine fO h2 fun zs q4 h5 => ?_
      obtain rfl := List.isEmpty_iff.mp (an h5).1
      exact newtl_st nd (an h5).2
    | newtb i m' =>
      refine bU hc fun t v p h1 => ?_
      refine aV h1 fun x q h2 => ?_
      refine bA h2 fun g' ys q2 h3 => ?_
      refine aV h3 fun r q3 h4 => ?_
      refine bW h4 fun y h5 => ?_
      obtain ⟨h6, h7⟩ := an h5
      obtain ⟨h8, h9⟩ := an h6
      exact newtb_st T KF nd hE hnb (an h8).1 (an h8).2 h9 h7
    | seti o i e =>
      refine bU hc fun t v p h1 => ?_
      refine dN h1 fun o' i' q h => ?_
      obtain ⟨h2, h3⟩ := an h
      obtain ⟨h4, h5⟩ := an h2
      obtain ⟨h6, h7⟩ := an h4
      exact seti_st hE (an h6).1 h7 h5 h3
    | setsl o lo hi e =>
      refine bU hc fun t v p h1 => ?_
      refine dN h1 fun o' sl q h2 => ?_
      refine fP h2 fun a b c q2 h3 => ?_
      obtain ⟨h4, h5⟩ := an h3
      obtain rfl := bS h4
      refine cN h5 fun l h6 => ?_
      refine cN h6 fun h' h7 => ?_
      obtain ⟨h8, e5⟩ := an h7
      obtain ⟨h9, e4⟩ := an h8
      obtain ⟨hA, e3⟩ := an h9
      exact setsl_st hE hsb (an hA).1 (an hA).2 e3 e4 e5
    | setfrom o lo e =>
      refine bU hc fun t v p h1 => ?_
      refine dN h1 fun o' sl q h2 => ?_
      refine fP h2 fun a b c q2 h3 => ?_
      obtain ⟨h4, h5⟩ := an h3
      obtain rfl := bS (an h4).1
      obtain rfl := bS (an h4).2
      refine cN h5 fun l h7 => ?_
      obtain ⟨h8, e4⟩ := an h7
      obtain ⟨h9, e3⟩ := an h8
      exact setfrom_st hE hsb (an h9).1 (an h9).2 e3 e4
    | unp is e =>
      refine bU hc fun t v p h1 => ?_
      refine onTuple_el h1 fun ts k q h => ?_
      obtain ⟨h3, h4⟩ := an h
      obtain ⟨h5, h6⟩ := an h3
      exact unp_st nd hE (an h5).1 (an h5).2 h6 h4
    | aug i op e =>
      refine onAug_el hc fun t o v p h1 => ?_
      refine aV h1 fun x q h => ?_
      exact aug_st nd hE (an (an h).1).1 (an (an h).1).2 (an h).2
    | ret e =>
      refine nV hc fun v p h1 => ?_
      refine cN h1 fun v h => ?_
      exact ret_st hE h
    | retn =>
      refine nV hc fun v p h1 => ?_
      obtain rfl := bS h1
      exact retn_st
    | ifs t a b =>
      refine onIf_el hc fun t' a' b' p h => ?_
      exact ifs_st hT hS (an (an h).1).1 (an (an h).1).2 (an h).2
    | whl t b =>
      refine onWhl_el hc fun t' b' p h => ?_
      exact whl_st hT hS (an h).1 (an h).2
    | forr i es b =>
      refine onFor_el hc fun t it b' p h1 => ?_
      refine aV h1 fun x q h2 => ?_
      refine bA h2 fun g' ys q2 h3 => ?_
      refine aV h3 fun r q3 h4 => ?_
      obtain ⟨h6, h7⟩ := an h4
      obtain ⟨h8, h9⟩ := an h6
      exact forr_st T KF nd hE hS (an h8).1 (an h8).2 h9 h7
    | forl i e b =>
      refine onFor_el hc fun t it b' p h1 => ?_
      refine aV h1 fun x q h4 => ?_
      obtain ⟨h6, h7⟩ := an h4
      obtain ⟨h8, h9⟩ := an h6
      exact forl_st nd hE hS (an h8).1 (an h8).2 h9 h7
    | forrev i e b =>
      refine onFor_el hc fun t it b' p h1 => ?_
      refine aV h1 fun x q h2 => ?_
      refine bA h2 fun g' ys q2 h3 => ?_
      refine aV h3 fun r q3 h4 => ?_
      refine bW h4 fun y h5 => ?_
      obtain ⟨hA, hb⟩ := an h5
      obtain ⟨h6, h7⟩ := an hA
      obtain ⟨h8, h9⟩ := an h6
      exact forrev_st T KF nd hE hS (an h8).1 (an h8).2 h9 h7 hb
    | cont => obtain ⟨p, rfl⟩ := isCont_inv hc; exact cont_st
    | asgc i j m' elt =>
      refine bU hc fun t v p h1 => ?_
      refine aV h1 fun x q h => ?_
      exact asgc_st T KF nd hE (an h).1 (an h).2
theorem wp_sound (T : Stat K g) (KF : KFacts K) (hΓ : GV prog w g lev Γ) (hbif : BifOk prog w g lev) (hpk : PackOk prog w g lev) (hpm : PackMeth prog w g) (hbs : BslOk prog w g lev) (hnb : NewTb prog w lev) (hsb : SetB prog w lev) (nd : vars.Nodup) :
    ∀ n, SndE prog w g lev vars (wp Γ n) /\ SndT prog w g lev vars (wp Γ n) /\ SndS prog w g lev vars (wp Γ n)
  | 0 => ⟨fun _ _ _ _ _ _ _ _ _ _ _ _ _ _ _ h _ => h.elim, fun _ _ _ _ _ _ _ _ _ _ _ _ _ _ _ h _ => h.elim, fun _ _ _ _ _ _ _ _ _ _ _ _ _ _ _ h _ => h.elim⟩
  | n + 1 => by
    have zq0 := wp_sound T KF hΓ hbif hpk hpm hbs hnb hsb nd n; have hE := zq0.1; have hT := zq0.2.1; have hS := zq0.2.2; clear zq0
    exact ⟨fun m env e ir hc => nodes_sound T KF hΓ hbif hpk hpm hbs hE hT (comp_node T KF nd hE) m env e ir hc, fun m env e ir hc => tests_sound hE hT m env e ir hc, stmts_sound nd hS (stNodes T KF nd hnb hsb hE hT hS)⟩
end
end Fb
set_option genInjectivity false
set_option genCtorIdx false
set_option genSizeOf false
namespace Fb
noncomputable def KindOk (scope : Scope) (x : Str) : Prop := scope.names.lookup x = some .local \/ scope.names.lookup x = some .cell
structure FnAt (K : Frag) (f : Addr) (body : List Stmt) (scope : Scope) (names : List Str) (nv : Nat) (davs : List AV) : Prop where
  ex : ∃ o fd, K.lookup f = some o /\ o.data = .func fd /\ fd.scope = scope /\ fd.body = .stmts body /\ fd.globals = mainGlobals /\ fd.builtins = builtinsNs /\ fd.closure = [] /\ (∀ h, K.In h -> h.CodeRec fd.code fd.qualname) /\
    ∀ (s : Shared) (vals : List Value), K.In s.heap -> vals.length = nv -> ∃ dv : List Value, dv.length = davs.length /\ BindsTo s fd ⟨vals, []⟩ (names.zip (vals ++ dv)) /\ ∀ ρ σ h, RVs ρ σ h davs dv
  co : scope.isCoroutine = false
  gen : scope.isGenerator = false
  fn : scope.kind = .function
  kinds : ∀ x ∈ names, KindOk scope x
  len : names.length = nv + davs.length
theorem iR : ∀ (names : List (Str × NameKind)) (n : Nat) (acc : List (Str × Addr)) (x : Str), (acc.lookup x).isSome = true -> ((cellsFrom n names acc).lookup x).isSome = true
  | [], _, _, _, h => h
  | (y, k) :: r, n, acc, x, h => by
    unfold cellsFrom
    split
    . refine iR r _ _ x ?_
      rw [List.lookup_cons]
      cases x == y <;> simp [h]
    . exact iR r _ _ x h
theorem bX : ∀ (names : List (Str × NameKind)) (n : Nat) (acc : List (Str × Addr)) (x : Str), names.lookup x = some .cell -> ((cellsFrom n names acc).lookup x).isSome = true
  | [], _, _, _, h => nomatch h
  | (y, k) :: r, n, acc, x, h => by
    rw [List.lookup_cons] at h
    unfold cellsFrom
    induction hx : x == y using Bool.casesOn with
    | true =>
      rw [hx] at h
      (have e9 := Option.some.inj h; clear h; subst e9)
      simp only [beq_self_eq_true, if_true]
      refine iR r _ _ x ?_
      rw [List.lookup_cons, hx]; rfl
    | false =>
      rw [hx] at h
      split
      . exact bX r _ _ x h
      . exact bX r _ _ x h
theorem bindL_not {k : Str -> Option NameKind} : ∀ {binds : List (Str × Value)} {m : Str -> Option Value} {x : Str}, x ∉ binds.map (·.1) -> bindL k binds m x = m x
  | [], _, _, _ => rfl
  | (n, v) :: r, m, x, h => by
    simp only [List.map_cons, List.mem_cons, not_or] at h
    unfold bindL
    rw [bindL_not h.2]
    split
    . simp only [if_neg h.1]
    . rfl
theorem bindC_not {k : Str -> Option NameKind} : ∀ {binds : List (Str × Value)} {m : Str -> Option Value} {x : Str}, x ∉ binds.map (·.1) -> bindC k binds m x = m x
  | [], _, _, _ => rfl
  | (n, v) :: r, m, x, h => by
    simp only [List.map_cons, List.mem_cons, not_or] at h
    unfold bindC
    rw [bindC_not h.2]
    split
    . rfl
    . simp only [if_neg h.1]
theorem bind_at {k : Str -> Option NameKind} : ∀ {names : List Str} {vals : List Value} {m cm : Str -> Option Value} {i : Nat} {x : Str} {v : Value}, names.Nodup -> names[i]? = some x -> vals[i]? = some v ->
    (k x = some .local -> bindL k (names.zip vals) m x = some v) /\ (k x ≠ some .local -> bindC k (names.zip vals) cm x = some v)
  | [], _, _, _, _, _, _, _, h, _ => by simp at h
  | _ :: _, [], _, _, _, _, _, _, _, h => by simp at h
  | n :: ns, u :: us, m, cm, i, x, v, nd, h1, h2 => by
    rw [List.nodup_cons] at nd
    induction i using Nat.casesOn with
    | zero =>
      simp only [List.getElem?_cons_zero, Option.some.injEq] at h1 h2
      subst h1; subst h2
      have hn : n ∉ (ns.zip us).map (·.1) := fun q => by
        obtain ⟨p, hp, e⟩ := List.mem_map.mp q
        exact nd.1 (e ▸ (List.of_mem_zip hp).1)
      refine ⟨fun hk => ?_, fun hk => ?_⟩
      . show bindL k ((n, u) :: ns.zip us) m n = some u
        unfold bindL; rw [bindL_not hn, if_pos hk]; simp
      . show bindC k ((n, u) :: ns.zip us) cm n = some u
        unfold bindC; rw [bindC_not hn, if_neg hk]; simp
    | succ i =>
      simp only [List.getElem?_cons_succ] at h1 h2
      obtain ⟨a, b⟩ := bind_at (k := k) (m := if k n = some .local then fun y => if y = n then some u else m y else m) (cm := if k n = some .local then cm else fun y => if y = n then some u else cm y) nd.2 h1 h2
      exact ⟨a, b⟩
theorem pw_inj : ∀ {l : List (Str × Addr)}, l.Pairwise (fun x y => x.2 ≠ y.2) -> ∀ {p q : Str × Addr}, p ∈ l -> q ∈ l -> p.2 = q.2 -> p = q
  | [], _, _, _, h, _, _ => nomatch h
  | x :: r, hp, p, q, h1, h2, e => by
    rw [List.pairwise_cons] at hp
    rcases List.mem_cons.mp h1 with e1 | h1'
    . rcases List.mem_cons.mp h2 with e2 | h2'
      . rw [e1, e2]
      . exact absurd (e1 ▸ e) (hp.1 q h2')
    . rcases List.mem_cons.mp h2 with e2 | h2'
      . exact absurd (e2 ▸ e.symm) (hp.1 p h1')
      . exact pw_inj hp.2 h1' h2' e
noncomputable def aR (Γ : Fns) (n : Nat) (irs : List IS) (nv : Nat) (davs : List AV) (k : Nat) (avs : List AV) (σ : St) (Kc : AV -> St -> Prop) : Prop :=
  avs.length = nv /\ (wp Γ n).s irs (avs ++ (davs ++ List.replicate k .unb)) σ (retK Kc)
section
variable {prog : Program} {w : World} {g : Heap} {lev : Nat} {vars : List Str} {K : Frag} {Γ : Fns}
theorem Bud.deeper {A : Around} {env : Env} (h : Bud (lev + 1) A) : Bud lev (A.deeper env) := by
  have a := h.hd; have b := h.dp; have c := h.un
  refine ⟨a, ?_, ?_, h.gd⟩
  . show A.depth + 1 + 10 * lev <= 900; lia
  . show A.units + 3 + 100 * lev <= 9000; lia
theorem fn_entry (T : Stat K g) {f : Addr} {body : List Stmt} {scope : Scope} {names rest : List Str} {nv m n : Nat} {davs : List AV} {irs : List IS} (F : FnAt K f body scope names nv davs) (nd : (names ++ rest).Nodup)
    (hc : dC (chkS m (names ++ rest) scope) body irs = true) (hS : SndS prog w g lev (names ++ rest) (wp Γ n)) : FunOk prog w g (lev + 1) f (aR Γ n irs nv davs rest.length) := by
  intro A s ρ σ avs vs Kc Q E hB st D R hw hP
  refine bcn fun nG => ?_; obtain ⟨hlen, hw⟩ := hw
  obtain ⟨o, fd, zq0⟩ := F.ex; have ho := zq0.1; have hd := zq0.2.1; have hsc := zq0.2.2.1; have hbody := zq0.2.2.2.1; have hgl := zq0.2.2.2.2.1; have hbi := zq0.2.2.2.2.2.1; have hclo := zq0.2.2.2.2.2.2.1; have hcd := zq0.2.2.2.2.2.2.2.1; have hbinds := zq0.2.2.2.2.2.2.2.2
  have X : K.In s.heap := T.X.keeps st
  obtain ⟨dv, zq0⟩ := hbinds s vs X (by rw [dB R, hlen]); have hdl := zq0.1; have hbind := zq0.2.1; have hdr := zq0.2.2
  have hR : RVs ρ σ s.heap (avs ++ davs) (vs ++ dv) := lY R (hdr ρ σ s.heap)
  have hkind : ∀ x ∈ names.zip (vs ++ dv), fd.scope.names.lookup x.1 = some .local \/ (fd.scope.names.lookup x.1 = some .cell /\ ((cellsFrom (s.heap.objs.size + 1) fd.scope.names []).lookup x.1).isSome = true) := by
    intro x hx
    rw [hsc]
    rcases F.kinds x.1 (List.of_mem_zip hx).1 with q | q
    . exact .inl q
    . exact .inr ⟨q, bX _ _ _ _ q⟩
  refine nG ?_; refine cX (N.callFn (by have := hB.dp; show A.depth < 1000; (exact Nat.lt_of_succ_le (by lia))) (X _ _ ho) hd (by rw [hsc]; exact F.co) (by rw [hsc]; exact F.gen) hbody (hcd _ X) (aB (hbind _ _ _ _ ?_)))
  rw [hclo]
  refine aB (wpAny_newFunctionEnv_cells (by rw [hsc]; exact F.fn) hkind fun env he sG x => ?_)
  refine ⟨(T.lim.keeps st).keeps x.toInCall.keep, N.funcN ?_⟩
  obtain ⟨hG, tkG, rfl⟩ := x.toInCall.same
  have G : Grows s.heap hG := x.toInCall.keep
  have hsize : s.heap.objs.size <= env.locals := x.toInCall.fresh
  have hnone : ∀ a, s.heap.objs.size <= a -> s.heap.get? a = none := fun a ha => by
    induction e : s.heap.get? a using Option.casesOn with
    | none => rfl
    | some o' => exact absurd (Heap.lt_size e) (Nat.not_lt.mpr ha)
  have gn : ∀ a, s.heap.get? a = none -> g.get? a = none := fun a ha => by
    induction e : g.get? a using Option.casesOn with
    | none => rfl
    | some o => have := st _ _ e; rw [ha] at this; exact nn this
  have henv : env.scope = scope /\ env.globals = mainGlobals /\ env.builtins = builtinsNs /\ env.cells = cellsFrom (s.heap.objs.size + 1) fd.scope.names [] := by
    subst he; exact ⟨hsc, hgl, hbi, rfl⟩
  have e1 := henv.1; have e2 := henv.2.1; have e3 := henv.2.2.1; have e4 := henv.2.2.2; clear henv
  have kof : ∀ y, env.kindOf y = scope.names.lookup y := by intro y; rw [<- e1]; rfl
  have cellin : ∀ y c, env.cells.lookup y = some c -> (y, c) ∈ env.cells := by
    intro y c hy
    obtain ⟨z, zq0⟩ := iN hy; have hz := zq0.1; have hm := zq0.2
    rw [eq_of_beq hz] at hm; exact hm
  have hact : Act g ρ σ env (names ++ rest) (avs ++ (davs ++ List.replicate rest.length .unb)) hG := by
    refine ⟨D.grow G, fun a o q => G a o (st a o q), ⟨by rw [e1]; exact F.fn, e2, e3⟩, ⟨_, x.toInCall.ns⟩, fun i y av hi hvis hf hu => ?_, ⟨(D.notIn (hnone _ hsize)).1, gn _ (hnone _ hsize)⟩, fun y c hy => ?_, fun y z c hy hz => ?_, fun y hy => ?_⟩
    . have hlt : i < (avs ++ davs).length := by
        rcases Nat.lt_or_ge i (avs ++ davs).length with q | q
        . exact q
        . exfalso
          rw [<- List.append_assoc, List.getElem?_append_right q] at hf
          have := List.mem_of_getElem? hf
          exact hu (List.eq_of_mem_replicate this)
      rw [<- List.append_assoc, List.getElem?_append_left hlt] at hf
      have hin : i < names.length := by rw [F.len, <- hlen, <- List.length_append]; exact hlt
      rw [List.getElem?_append_left hin] at hi
      obtain ⟨v, zq0⟩ := rvs_get hR i hlt; have hv := zq0.1; have rv := zq0.2
      have hav : (avs ++ davs).getD i .unb = av := by rw [List.getD_eq_getElem?_getD, hf]; rfl
      rw [hav] at rv
      refine ⟨v, ?_, rv.step G.stp⟩
      have ndn : names.Nodup := (List.nodup_append.mp nd).1
      have zq0 := bind_at (k := env.kindOf) (m := fun _ => none) (cm := fun _ => none) ndn hi hv; have bl := zq0.1; have bc := zq0.2; clear zq0
      rcases F.kinds y (List.mem_of_getElem? hi) with q | q
      . have q' : env.kindOf y = some .local := (kof y).trans q
        exact .inl ⟨q', _, x.toInCall.ns, bl q'⟩
      . have q' : env.kindOf y = some .cell := (kof y).trans q
        have hs := bX scope.names (s.heap.objs.size + 1) [] y q
        obtain ⟨c, hc⟩ := Option.isSome_iff_exists.mp hs
        have hc' : env.cells.lookup y = some c := by rw [e4, hsc]; exact hc
        refine .inr ⟨.inl q', c, hc', ?_⟩
        have := x.cell y c hc'
        rw [bc (by rw [q']; simp)] at this
        exact this
    . have hab := x.above y c (cellin y c hy)
      have hcn := hnone c (Nat.le_of_lt (Nat.lt_of_le_of_lt hsize hab))
      exact ⟨⟨_, x.cell y c hy⟩, (D.notIn hcn).1, gn _ hcn⟩
    . have p := x.apart
      have m1 := cellin y c hy
      have m2 := cellin z c hz
      exact congrArg Prod.fst (pw_inj p m1 m2 rfl)
    . rw [kof] at hy
      have hs := bX scope.names (s.heap.objs.size + 1) [] y hy
      obtain ⟨c, hc⟩ := Option.isSome_iff_exists.mp hs
      exact ⟨c, by rw [e4, hsc]; exact hc⟩
  refine hS m env body irs (by rw [e1]; exact hc) (A.deeper env) (Fb.sh s hG tkG) ρ σ _ _ _ _ hB.deeper hact hw ?_
  intro fl f' fr' ρ' σ' h' tk hk H' S' F'
  have SH : Stp NoP ρ σ s.heap ρ' σ' h' := by
    have S0 : Stp (Own env) ρ σ s.heap ρ' σ' h' := (G.stp (P := Own env)).trans S'
    exact { S0 with keep := fun a o ha _ e => S0.keep a o ha (fun q => by
      rcases q with rfl | ⟨y, hy⟩
      . rw [hnone _ hsize] at e; exact nn e
      . have hab := x.above y a (cellin y a hy)
        rw [hnone a (Nat.le_of_lt (Nat.lt_of_le_of_lt hsize hab))] at e; exact nn e) e }
  revert hk
  exact F'.el (fun hk => hP _ _ ρ' σ' h' tk hk H'.dyn SH .none) (fun hk => hk.elim) fun av v r hk => hP _ _ ρ' σ' h' tk hk H'.dyn SH r
end
end Fb
namespace Fb
noncomputable def gL : List Str := [Str.ofString "n", Str.ofString "flags"]
noncomputable def gW : List Str := []
noncomputable def fH : List IS := [.ifs (.and (.cmp .is (.cattr .min_val (.loc 1)) (.lit .none)) (.cmp .is (.cattr .max_val (.loc 1)) (.lit .none))) [.retn] [], .ifs (.un .not (.cmp2 .le .le (.cattr .min_val (.loc 1)) (.loc 0) (.cattr .max_val (.loc 1)))) [.bad] []]
noncomputable def names_Write : List Str := [Str.ofString "packer_type", Str.ofString "buf", Str.ofString "head", Str.ofString "n"]
noncomputable def rest_Write : List Str := []
noncomputable def ir_Write : List IS := [.expr (.pack (.loc 0) (.loc 1) (.loc 2) (.loc 3))]
noncomputable def names_Output : List Str := [Str.ofString "self"]
noncomputable def rest_Output : List Str := []
noncomputable def ir_Output : List IS := [.ifs (.un .not (.slot .fin (.loc 0))) [.bad] [], .ret (.slFrom (.slot .bytes (.loc 0)) (.slot .head (.loc 0)))]
noncomputable def jY : List Str := [Str.ofString "self", Str.ofString "numfields"]
noncomputable def lA : List Str := []
noncomputable def iU : List IS := [.expr (.meth 16 (.loc 0) []), .newcv 0 (.loc 1), .sets .oend (.loc 0) (.meth 6 (.loc 0) []), .sets .nested (.loc 0) (.lit (.bool true))]
noncomputable def jX : List Str := [Str.ofString "self"]
noncomputable def lP : List Str := [Str.ofString "objectOffset", Str.ofString "vtKey", Str.ofString "trim", Str.ofString "elem", Str.ofString "objectSize", Str.ofString "vt2Offset", Str.ofString "i", Str.ofString "trailing", Str.ofString "vBytes", Str.ofString "objectStart", Str.ofString "off"]
noncomputable def jK : List IS := [.expr (.meth 9 (.loc 0) [(.lit (.int 0))]), .asg 1 (.meth 6 (.loc 0) []), .newtl 2, .asg 3 (.lit (.bool true)), .forrev 4 (.slot .cv (.loc 0)) [.ifs (.cmp .eq (.loc 4) (.lit (.int 0))) [.ifs (.loc 3) [.cont] []] [.asg 4 (.bin .sub (.loc 1) (.loc 4)), .asg 3 (.lit (.bool false))], .expr (.append (.loc 2) (.loc 4))], .asg 5 (.pyty (.glob 26) (.bin .sub (.loc 1) (.slot .oend (.loc 0)))), .expr (.append (.loc 2) (.loc 5)), .asg 2 (.bif .tuple [(.loc 2)]), .asg 6 (.dget (.slot .vtables (.loc 0)) (.loc 2)), .ifs (.cmp .is (.loc 6) (.lit .none)) [.asg 7 (.bin .sub (.bif .len [(.slot .cv (.loc 0))]) (.lit (.int 1))), .asg 8 (.lit (.int 0)), .asg 3 (.lit (.bool true)), .whl (.cmp .ge (.loc 7) (.lit (.int 0))) [.asg 11 (.lit (.int 0)), .asg 4 (.idx (.slot .cv (.loc 0)) (.loc 7)), .aug 7 .sub (.lit (.int 1)), .ifs (.cmp .eq (.loc 4) (.lit (.int 0))) [.ifs (.loc 3) [.aug 8 .add (.lit (.int 1)), .cont] []] [.asg 11 (.bin .sub (.loc 1) (.loc 4)), .asg 3 (.lit (.bool false))], .expr (.meth 35 (.loc 0) [(.loc 11)])], .expr (.meth 35 (.loc 0) [(.pyty (.glob 27) (.loc 5))]), .asg 9 (.bin .add (.bin .sub (.bif .len [(.slot .cv (.loc 0))]) (.loc 8)) (.glob 45)), .aug 9 .mul (.cattr .bytewidth (.glob 27)), .expr (.meth 35 (.loc 0) [(.pyty (.glob 27) (.loc 9))]), .asg 10 (.pyty (.glob 25) (.bin .sub (.bif .len [(.slot .bytes (.loc 0))]) (.loc 1))), .expr (.call 29 [(.glob 15), (.slot .bytes (.loc 0)), (.loc 10), (.pyty (.glob 25) (.bin .sub (.meth 6 (.loc 0) []) (.loc 1)))]), .seti (.slot .vtables (.loc 0)) (.loc 2) (.meth 6 (.loc 0) [])] [.asg 10 (.pyty (.glob 25) (.bin .sub (.bif .len [(.slot .bytes (.loc 0))]) (.loc 1))), .sets .head (.loc 0) (.pyty (.glob 26) (.loc 10)), .expr (.call 29 [(.glob 15), (.slot .bytes (.loc 0)), (.meth 5 (.loc 0) []), (.pyty (.glob 25) (.bin .sub (.loc 6) (.loc 1)))])], .sets .cv (.loc 0) (.lit .none), .ret (.loc 1)]
noncomputable def mQ : List Str := [Str.ofString "self"]
noncomputable def nF : List Str := []
noncomputable def lQ : List IS := [.expr (.meth 15 (.loc 0) []), .sets .nested (.loc 0) (.lit (.bool false)), .ret (.meth 2 (.loc 0) [])]
noncomputable def gE : List Str := [Str.ofString "self"]
noncomputable def iA : List Str := [Str.ofString "msg", Str.ofString "newSize", Str.ofString "bytes2"]
noncomputable def eT : List IS := [.ifs (.cmp .eq (.bif .len [(.slot .bytes (.loc 0))]) (.cattr .maxbuf (.glob 30))) [.asg 1 (.lit (.str (Str.ofString "flatbuffers: cannot grow buffer beyond 2 gigabytes"))), .bad] [], .asg 2 (.bif .min [(.bin .mul (.bif .len [(.slot .bytes (.loc 0))]) (.lit (.int 2))), (.cattr .maxbuf (.glob 30))]), .ifs (.cmp .eq (.loc 2) (.lit (.int 0))) [.asg 2 (.lit (.int 1))] [], .newtb 3 (.loc 2), .setfrom (.loc 3) (.bin .sub (.loc 2) (.bif .len [(.slot .bytes (.loc 0))])) (.slot .bytes (.loc 0)), .sets .bytes (.loc 0) (.loc 3)]
noncomputable def names_Head : List Str := [Str.ofString "self"]
noncomputable def rest_Head : List Str := []
noncomputable def ir_Head : List IS := [.ret (.slot .head (.loc 0))]
noncomputable def names_Offset : List Str := [Str.ofString "self"]
noncomputable def rest_Offset : List Str := []
noncomputable def ir_Offset : List IS := [.ret (.bin .sub (.bif .len [(.slot .bytes (.loc 0))]) (.slot .head (.loc 0)))]
noncomputable def names_Pad : List Str := [Str.ofString "self", Str.ofString "n"]
noncomputable def rest_Pad : List Str := [Str.ofString "new_head"]
noncomputable def ir_Pad : List IS := [.ifs (.cmp .le (.loc 1) (.lit (.int 0))) [.retn] [], .asg 2 (.bin .sub (.slot .head (.loc 0)) (.loc 1)), .setsl (.slot .bytes (.loc 0)) (.loc 2) (.slot .head (.loc 0)) (.bin .mul (.lit (.bytes [0])) (.loc 1)), .sets .head (.loc 0) (.loc 2)]
noncomputable def names_Prep : List Str := [Str.ofString "self", Str.ofString "size", Str.ofString "additionalBytes"]
noncomputable def rest_Prep : List Str := [Str.ofString "head", Str.ofString "buf_len", Str.ofString "alignSize", Str.ofString "needed", Str.ofString "oldBufSize"]
noncomputable def ir_Prep : List IS := [.ifs (.cmp .gt (.loc 1) (.slot .minalign (.loc 0))) [.sets .minalign (.loc 0) (.loc 1)] [], .asg 3 (.slot .head (.loc 0)), .asg 4 (.bif .len [(.slot .bytes (.loc 0))]), .asg 5 (.bin .add (.un .inv (.bin .add (.bin .sub (.loc 4) (.loc 3)) (.loc 2))) (.lit (.int 1))), .aug 5 .band (.bin .sub (.loc 1) (.lit (.int 1))), .asg 6 (.bin .add (.bin .add (.loc 5) (.loc 1)) (.loc 2)), .whl (.cmp .lt (.loc 3) (.loc 6)) [.asg 7 (.loc 4), .expr (.meth 4 (.loc 0) []), .asg 4 (.bif .len [(.slot .bytes (.loc 0))]), .aug 3 .add (.bin .sub (.loc 4) (.loc 7))], .sets .head (.loc 0) (.loc 3), .expr (.meth 7 (.loc 0) [(.loc 5)])]
noncomputable def cO : List Str := [Str.ofString "self", Str.ofString "off"]
noncomputable def cS : List Str := [Str.ofString "msg", Str.ofString "off2"]
noncomputable def bZ : List IS := [.expr (.meth 8 (.loc 0) [(.cattr .bytewidth (.glob 25)), (.lit (.int 0))]), .ifs (.un .not (.cmp .le (.loc 1) (.meth 6 (.loc 0) []))) [.asg 2 (.lit (.str (Str.ofString "flatbuffers: Offset arithmetic error."))), .bad] [], .asg 3 (.bin .add (.bin .sub (.meth 6 (.loc 0) []) (.loc 1)) (.cattr .bytewidth (.glob 25))), .expr (.meth 37 (.loc 0) [(.loc 3)])]
noncomputable def cQ : List Str := [Str.ofString "self", Str.ofString "off"]
noncomputable def cT : List Str := [Str.ofString "msg", Str.ofString "off2"]
noncomputable def bY : List IS := [.expr (.meth 8 (.loc 0) [(.cattr .bytewidth (.glob 26)), (.lit (.int 0))]), .ifs (.un .not (.cmp .le (.loc 1) (.meth 6 (.loc 0) []))) [.asg 2 (.lit (.str (Str.ofString "flatbuffers: Offset arithmetic error."))), .bad] [], .asg 3 (.bin .add (.bin .sub (.meth 6 (.loc 0) []) (.loc 1)) (.cattr .bytewidth (.glob 26))), .expr (.meth 38 (.loc 0) [(.loc 3)])]
noncomputable def jZ : List Str := [Str.ofString "self", Str.ofString "elemSize", Str.ofString "numElems", Str.ofString "alignment"]
noncomputable def lN : List Str := []
noncomputable def jN : List IS := [.expr (.meth 16 (.loc 0) []), .sets .nested (.loc 0) (.lit (.bool true)), .sets .vne (.loc 0) (.loc 2), .expr (.meth 8 (.loc 0) [(.cattr .bytewidth (.glob 19)), (.bin .mul (.loc 1) (.loc 2))]), .expr (.meth 8 (.loc 0) [(.loc 3), (.bin .mul (.loc 1) (.loc 2))]), .ret (.meth 6 (.loc 0) [])]
noncomputable def cV : List Str := [Str.ofString "self", Str.ofString "numElems"]
noncomputable def nP : List Str := []
noncomputable def mI : List IS := [.expr (.meth 15 (.loc 0) []), .sets .nested (.loc 0) (.lit (.bool false)), .ifs (.loc 1) [.ifs (.cmp .ne (.loc 1) (.slot .vne (.loc 0))) [.bad] []] [], .expr (.meth 38 (.loc 0) [(.slot .vne (.loc 0))]), .sets .vne (.loc 0) (.lit .none), .ret (.meth 6 (.loc 0) [])]
noncomputable def jQ : List Str := [Str.ofString "self", Str.ofString "s"]
noncomputable def kD : List Str := [Str.ofString "x", Str.ofString "payload_len", Str.ofString "new_head"]
noncomputable def gT : List IS := [.expr (.meth 16 (.loc 0) []), .sets .nested (.loc 0) (.lit (.bool true)), .ifs (.bif .isinst [(.loc 1), (.glob 12)]) [.bad] [.ifs (.bif .isinst [(.loc 1), (.glob 13)]) [.asg 2 (.loc 1)] [.bad]], .asg 3 (.bif .len [(.loc 2)]), .expr (.meth 8 (.loc 0) [(.cattr .bytewidth (.glob 26)), (.bin .mul (.bin .add (.loc 3) (.lit (.int 1))) (.cattr .bytewidth (.glob 17)))]), .expr (.meth 36 (.loc 0) [(.lit (.int 0)), (.glob 17)]), .asg 4 (.bin .sub (.slot .head (.loc 0)) (.loc 3)), .sets .head (.loc 0) (.loc 4), .setsl (.slot .bytes (.loc 0)) (.loc 4) (.bin .add (.loc 4) (.loc 3)) (.loc 2), .sets .vne (.loc 0) (.loc 3), .ret (.meth 12 (.loc 0) [])]
noncomputable def fG : List Str := [Str.ofString "self", Str.ofString "x"]
noncomputable def fJ : List Str := [Str.ofString "data_len", Str.ofString "new_head"]
noncomputable def dV : List IS := [.expr (.meth 16 (.loc 0) []), .sets .nested (.loc 0) (.lit (.bool true)), .ifs (.un .not (.bif .isinst [(.loc 1), (.glob 13)])) [.bad] [], .asg 2 (.bif .len [(.loc 1)]), .expr (.meth 8 (.loc 0) [(.cattr .bytewidth (.glob 26)), (.bin .mul (.loc 2) (.cattr .bytewidth (.glob 17)))]), .asg 3 (.bin .sub (.slot .head (.loc 0)) (.loc 2)), .sets .head (.loc 0) (.loc 3), .setsl (.slot .bytes (.loc 0)) (.loc 3) (.bin .add (.loc 3) (.loc 2)) (.loc 1), .sets .vne (.loc 0) (.loc 2), .ret (.meth 12 (.loc 0) [])]
noncomputable def iT : List Str := [Str.ofString "self"]
noncomputable def kQ : List Str := []
noncomputable def gR : List IS := [.ifs (.un .not (.slot .nested (.loc 0))) [.bad] []]
noncomputable def fK : List Str := [Str.ofString "self"]
noncomputable def gK : List Str := []
noncomputable def eB : List IS := [.ifs (.slot .nested (.loc 0)) [.bad] []]
noncomputable def dK : List Str := [Str.ofString "self", Str.ofString "obj"]
noncomputable def dU : List Str := [Str.ofString "msg"]
noncomputable def cL : List IS := [.expr (.call 28 [(.loc 1), (.glob 26)]), .ifs (.cmp .ne (.loc 1) (.meth 6 (.loc 0) [])) [.asg 2 (.lit (.str (Str.ofString "flatbuffers: Tried to write a Struct at an Offset that is different from the current Offset of the Builder."))), .bad] []]
noncomputable def names_Slot : List Str := [Str.ofString "self", Str.ofString "slotnum"]
noncomputable def rest_Slot : List Str := []
noncomputable def ir_Slot : List IS := [.expr (.meth 15 (.loc 0) []), .seti (.slot .cv (.loc 0)) (.loc 1) (.meth 6 (.loc 0) [])]
noncomputable def bO : List Str := [Str.ofString "self", Str.ofString "rootTable", Str.ofString "sizePrefix", Str.ofString "file_identifier"]
noncomputable def jW : List Str := [Str.ofString "prepSize", Str.ofString "i", Str.ofString "size"]
noncomputable def lK : List IS := [.expr (.call 28 [(.loc 1), (.glob 26)]), .asg 4 (.cattr .bytewidth (.glob 26)), .ifs (.cmp .isnot (.loc 3) (.lit .none)) [.aug 4 .add (.cattr .bytewidth (.glob 23))] [], .ifs (.loc 2) [.aug 4 .add (.cattr .bytewidth (.glob 23))] [], .expr (.meth 8 (.loc 0) [(.slot .minalign (.loc 0)), (.loc 4)]), .ifs (.cmp .isnot (.loc 3) (.lit .none)) [.expr (.meth 8 (.loc 0) [(.cattr .bytewidth (.glob 26)), (.glob 44)]), .asg 3 (.bif .unpack [(.lit (.str (Str.ofString ">BBBB"))), (.loc 3)]), .forr 5 [(.bin .sub (.glob 44) (.lit (.int 1))), (.un .neg (.lit (.int 1))), (.un .neg (.lit (.int 1)))] [.expr (.meth 36 (.loc 0) [(.idx (.loc 3) (.loc 5)), (.glob 17)])]] [], .expr (.meth 10 (.loc 0) [(.loc 1)]), .ifs (.loc 2) [.asg 6 (.bin .sub (.bif .len [(.slot .bytes (.loc 0))]) (.slot .head (.loc 0))), .expr (.call 28 [(.loc 6), (.glob 23)]), .expr (.meth 33 (.loc 0) [(.loc 6)])] [], .sets .fin (.loc 0) (.lit (.bool true)), .ret (.slot .head (.loc 0))]
noncomputable def oS : List Str := [Str.ofString "self", Str.ofString "flags", Str.ofString "off"]
noncomputable def rest_Prepend : List Str := []
noncomputable def pE : List IS := [.expr (.meth 8 (.loc 0) [(.cattr .bytewidth (.loc 1)), (.lit (.int 0))]), .expr (.meth 36 (.loc 0) [(.loc 2), (.loc 1)])]
noncomputable def dD : List Str := [Str.ofString "self", Str.ofString "flags", Str.ofString "o", Str.ofString "x", Str.ofString "d"]
noncomputable def dT : List Str := []
noncomputable def dR : List IS := [.ifs (.cmp .isnot (.loc 3) (.lit .none)) [.expr (.call 28 [(.loc 3), (.loc 1)])] [], .ifs (.cmp .isnot (.loc 4) (.lit .none)) [.expr (.call 28 [(.loc 4), (.loc 1)])] [], .ifs (.or (.cmp .ne (.loc 3) (.loc 4)) (.and (.slot .force (.loc 0)) (.cmp .isnot (.loc 4) (.lit .none)))) [.expr (.meth 22 (.loc 0) [(.loc 1), (.loc 3)]), .expr (.meth 18 (.loc 0) [(.loc 2)])] []]
noncomputable def eQ : List Str := [Str.ofString "self", Str.ofString "v", Str.ofString "x", Str.ofString "d"]
noncomputable def fF : List Str := []
noncomputable def dJ : List IS := [.expr (.call 28 [(.loc 3), (.glob 26)]), .ifs (.cmp .ne (.loc 2) (.loc 3)) [.expr (.meth 17 (.loc 0) [(.loc 2)]), .expr (.meth 18 (.loc 0) [(.loc 1)])] []]
noncomputable def jV : List Str := [Str.ofString "self", Str.ofString "x"]
noncomputable def lO : List Str := []
noncomputable def jL : List IS := [.expr (.meth 22 (.loc 0) [(.glob 16), (.loc 1)])]
noncomputable def kC : List Str := [Str.ofString "self", Str.ofString "x"]
noncomputable def lI : List Str := []
noncomputable def iV : List IS := [.expr (.meth 22 (.loc 0) [(.glob 17), (.loc 1)])]
noncomputable def gV : List Str := [Str.ofString "self", Str.ofString "x"]
noncomputable def iY : List Str := []
noncomputable def gB : List IS := [.expr (.meth 22 (.loc 0) [(.glob 18), (.loc 1)])]
noncomputable def iB : List Str := [Str.ofString "self", Str.ofString "x"]
noncomputable def iQ : List Str := []
noncomputable def fR : List IS := [.expr (.meth 22 (.loc 0) [(.glob 19), (.loc 1)])]
noncomputable def gZ : List Str := [Str.ofString "self", Str.ofString "x"]
noncomputable def iW : List Str := []
noncomputable def fT : List IS := [.expr (.meth 22 (.loc 0) [(.glob 20), (.loc 1)])]
noncomputable def jR : List Str := [Str.ofString "self", Str.ofString "x"]
noncomputable def lB : List Str := []
noncomputable def iS : List IS := [.expr (.meth 22 (.loc 0) [(.glob 21), (.loc 1)])]
noncomputable def iO : List Str := [Str.ofString "self", Str.ofString "x"]
noncomputable def jU : List Str := []
noncomputable def gO : List IS := [.expr (.meth 22 (.loc 0) [(.glob 22), (.loc 1)])]
noncomputable def iK : List Str := [Str.ofString "self", Str.ofString "x"]
noncomputable def kA : List Str := []
noncomputable def gP : List IS := [.expr (.meth 22 (.loc 0) [(.glob 23), (.loc 1)])]
noncomputable def iP : List Str := [Str.ofString "self", Str.ofString "x"]
noncomputable def kE : List Str := []
noncomputable def gQ : List IS := [.expr (.meth 22 (.loc 0) [(.glob 24), (.loc 1)])]
noncomputable def fM : List Str := [Str.ofString "self", Str.ofString "x"]
noncomputable def gJ : List Str := []
noncomputable def eK : List IS := [.expr (.meth 22 (.loc 0) [(.glob 27), (.loc 1)])]
noncomputable def names_Place : List Str := [Str.ofString "self", Str.ofString "x", Str.ofString "flags"]
noncomputable def rest_Place : List Str := [Str.ofString "new_head"]
noncomputable def ir_Place : List IS := [.expr (.call 28 [(.loc 1), (.loc 2)]), .asg 3 (.bin .sub (.slot .head (.loc 0)) (.cattr .bytewidth (.loc 2))), .sets .head (.loc 0) (.loc 3), .expr (.call 29 [(.cattr .packer_type (.loc 2)), (.slot .bytes (.loc 0)), (.loc 3), (.loc 1)])]
noncomputable def gY : List Str := [Str.ofString "self", Str.ofString "x"]
noncomputable def jF : List Str := [Str.ofString "new_head"]
noncomputable def fX : List IS := [.expr (.call 28 [(.loc 1), (.glob 25)]), .asg 2 (.bin .sub (.slot .head (.loc 0)) (.cattr .bytewidth (.glob 25))), .sets .head (.loc 0) (.loc 2), .expr (.call 29 [(.glob 15), (.slot .bytes (.loc 0)), (.loc 2), (.loc 1)])]
noncomputable def gX : List Str := [Str.ofString "self", Str.ofString "x"]
noncomputable def jD : List Str := [Str.ofString "new_head"]
noncomputable def fN : List IS := [.expr (.call 28 [(.loc 1), (.glob 26)]), .asg 2 (.bin .sub (.slot .head (.loc 0)) (.cattr .bytewidth (.glob 26))), .sets .head (.loc 0) (.loc 2), .expr (.call 29 [(.glob 14), (.slot .bytes (.loc 0)), (.loc 2), (.loc 1)])]
noncomputable def lC : List Str := []
noncomputable def mK : List Str := []
noncomputable def kX : List IS := [.ret (.list [(.tuple [(.lit (.int 1)), (.lit (.int 0)), (.lit (.int 1))]), (.tuple [(.lit (.int 1)), (.lit (.int 0)), (.lit (.int 255))]), (.tuple [(.lit (.int 2)), (.lit (.int 0)), (.lit (.int 65535))]), (.tuple [(.lit (.int 4)), (.lit (.int 0)), (.lit (.int 4294967295))]), (.tuple [(.lit (.int 8)), (.lit (.int 0)), (.lit (.int 18446744073709551615))]), (.tuple [(.lit (.int 1)), (.un .neg (.lit (.int 128))), (.lit (.int 127))]), (.tuple [(.lit (.int 2)), (.un .neg (.lit (.int 32768))), (.lit (.int 32767))]), (.tuple [(.lit (.int 4)), (.un .neg (.lit (.int 2147483648))), (.lit (.int 2147483647))]), (.tuple [(.lit (.int 8)), (.un .neg (.lit (.int 9223372036854775808))), (.lit (.int 9223372036854775807))])])]
noncomputable def gS : List Str := [Str.ofString "box", Str.ofString "many"]
noncomputable def jA : List Str := [Str.ofString "number"]
noncomputable def iD : List IS := [.ifs (.cmp .ge (.idx (.loc 0) (.lit (.int 1))) (.bif .len [(.idx (.loc 0) (.lit (.int 0)))])) [.ret (.lit (.int 0))] [], .asg 2 (.idx (.idx (.loc 0) (.lit (.int 0))) (.idx (.loc 0) (.lit (.int 1)))), .seti (.loc 0) (.lit (.int 1)) (.bin .add (.idx (.loc 0) (.lit (.int 1))) (.lit (.int 1))), .ret (.bin .mod (.loc 2) (.loc 1))]
noncomputable def lG : List Str := [Str.ofString "box", Str.ofString "kind"]
noncomputable def mT : List Str := [Str.ofString "width", Str.ofString "low", Str.ofString "high", Str.ofString "number"]
noncomputable def kS : List IS := [.unp [2, 3, 4] (.idx (.call 31 []) (.loc 1)), .asg 5 (.call 32 [(.loc 0), (.lit (.int 55340232221128654848))]), .ifs (.cmp .eq (.loc 1) (.lit (.int 0))) [.ret (.cmp .eq (.bin .mod (.loc 5) (.lit (.int 2))) (.lit (.int 1)))] [], .ret (.idx (.list [(.loc 3), (.loc 4), (.bin .add (.loc 3) (.bin .mod (.bin .fdiv (.loc 5) (.lit (.int 3))) (.bin .add (.bin .sub (.loc 4) (.loc 3)) (.lit (.int 1)))))]) (.bin .mod (.loc 5) (.lit (.int 3))))]
noncomputable def iL : List Str := [Str.ofString "builder", Str.ofString "kind", Str.ofString "n"]
noncomputable def kI : List Str := []
noncomputable def gU : List IS := [.ifs (.cmp .eq (.loc 1) (.lit (.int 0))) [.expr (.meth 26 (.loc 0) [(.loc 2)])] [.ifs (.cmp .eq (.loc 1) (.lit (.int 1))) [.expr (.meth 27 (.loc 0) [(.loc 2)])] [.ifs (.cmp .eq (.loc 1) (.lit (.int 2))) [.expr (.meth 28 (.loc 0) [(.loc 2)])] [.ifs (.cmp .eq (.loc 1) (.lit (.int 3))) [.expr (.meth 29 (.loc 0) [(.loc 2)])] [.ifs (.cmp .eq (.loc 1) (.lit (.int 4))) [.expr (.meth 30 (.loc 0) [(.loc 2)])] [.ifs (.cmp .eq (.loc 1) (.lit (.int 5))) [.expr (.meth 31 (.loc 0) [(.loc 2)])] [.ifs (.cmp .eq (.loc 1) (.lit (.int 6))) [.expr (.meth 32 (.loc 0) [(.loc 2)])] [.ifs (.cmp .eq (.loc 1) (.lit (.int 7))) [.expr (.meth 33 (.loc 0) [(.loc 2)])] [.expr (.meth 34 (.loc 0) [(.loc 2)])]]]]]]]]]
noncomputable def mR : List Str := [Str.ofString "pile", Str.ofString "size", Str.ofString "more"]
noncomputable def nU : List Str := []
noncomputable def mF : List IS := [.seti (.loc 0) (.lit (.int 1)) (.bif .max [(.idx (.loc 0) (.lit (.int 1))), (.loc 1)]), .whl (.cmp .ne (.bin .mod (.bin .add (.bif .len [(.idx (.loc 0) (.lit (.int 0)))]) (.loc 2)) (.loc 1)) (.lit (.int 0))) [.seti (.loc 0) (.lit (.int 0)) (.bin .add (.list [(.lit (.int 0))]) (.idx (.loc 0) (.lit (.int 0))))]]
noncomputable def nX : List Str := [Str.ofString "pile", Str.ofString "n", Str.ofString "width"]
noncomputable def oO : List Str := [Str.ofString "k"]
noncomputable def mX : List IS := [.seti (.loc 0) (.lit (.int 0)) (.bin .add (.comp 3 (.loc 2) (.bin .mod (.bin .fdiv (.loc 1) (.bin .pow (.lit (.int 256)) (.loc 3))) (.lit (.int 256)))) (.idx (.loc 0) (.lit (.int 0))))]
noncomputable def kN : List Str := [Str.ofString "pile", Str.ofString "kind", Str.ofString "n"]
noncomputable def lH : List Str := [Str.ofString "width"]
noncomputable def jP : List IS := [.asg 3 (.idx (.idx (.call 31 []) (.loc 1)) (.lit (.int 0))), .expr (.call 35 [(.loc 0), (.loc 3), (.lit (.int 0))]), .expr (.call 36 [(.loc 0), (.bif .int [(.loc 2)]), (.loc 3)])]
noncomputable def nK : List Str := [Str.ofString "builder", Str.ofString "pile", Str.ofString "box"]
noncomputable def oP : List Str := [Str.ofString "to", Str.ofString "pick"]
noncomputable def nM : List IS := [.asg 3 (.call 32 [(.loc 2), (.bin .add (.bif .len [(.idx (.loc 1) (.lit (.int 0)))]) (.lit (.int 1)))]), .asg 4 (.call 32 [(.loc 2), (.lit (.int 3))]), .ifs (.cmp .eq (.loc 4) (.lit (.int 2))) [.expr (.meth 35 (.loc 0) [(.bin .mod (.loc 3) (.lit (.int 65536)))]), .expr (.call 37 [(.loc 1), (.lit (.int 2)), (.bin .mod (.loc 3) (.lit (.int 65536)))]), .retn] [], .ifs (.cmp .eq (.loc 4) (.lit (.int 1))) [.expr (.meth 9 (.loc 0) [(.loc 3)])] [.expr (.meth 10 (.loc 0) [(.loc 3)])], .expr (.call 35 [(.loc 1), (.lit (.int 4)), (.lit (.int 0))]), .expr (.call 36 [(.loc 1), (.bin .add (.bin .sub (.bif .len [(.idx (.loc 1) (.lit (.int 0)))]) (.loc 3)) (.lit (.int 4))), (.lit (.int 4))])]
noncomputable def nC : List Str := [Str.ofString "builder", Str.ofString "pile", Str.ofString "box"]
noncomputable def oN : List Str := [Str.ofString "kind", Str.ofString "width", Str.ofString "items", Str.ofString "k", Str.ofString "size", Str.ofString "start", Str.ofString "right", Str.ofString "n", Str.ofString "end"]
noncomputable def nR : List IS := [.asg 3 (.call 32 [(.loc 2), (.lit (.int 9))]), .asg 4 (.idx (.idx (.call 31 []) (.loc 3)) (.lit (.int 0))), .asgc 5 6 (.call 32 [(.loc 2), (.lit (.int 4))]) (.call 33 [(.loc 2), (.loc 3)]), .asg 7 (.idx (.list [(.loc 4), (.lit (.int 4)), (.lit (.int 16))]) (.call 32 [(.loc 2), (.lit (.int 3))])), .ifs (.cmp .lt (.loc 7) (.loc 4)) [.asg 7 (.loc 4)] [], .asg 8 (.meth 11 (.loc 0) [(.loc 4), (.bif .len [(.loc 5)]), (.loc 7)]), .expr (.call 35 [(.loc 1), (.lit (.int 4)), (.bin .mul (.loc 4) (.bif .len [(.loc 5)]))]), .expr (.call 35 [(.loc 1), (.loc 7), (.bin .mul (.loc 4) (.bif .len [(.loc 5)]))]), .asg 9 (.cmp .eq (.loc 8) (.bif .len [(.idx (.loc 1) (.lit (.int 0)))])), .forl 10 (.rev (.loc 5)) [.expr (.call 34 [(.loc 0), (.loc 3), (.loc 10)]), .expr (.call 37 [(.loc 1), (.loc 3), (.loc 10)])], .asg 11 (.meth 12 (.loc 0) []), .expr (.call 36 [(.loc 1), (.bif .len [(.loc 5)]), (.lit (.int 4))]), .ret (.and (.loc 9) (.cmp .eq (.loc 11) (.bif .len [(.idx (.loc 1) (.lit (.int 0)))])))]
noncomputable def jT : List Str := [Str.ofString "builder", Str.ofString "pile", Str.ofString "box"]
noncomputable def lM : List Str := [Str.ofString "octets", Str.ofString "k", Str.ofString "end"]
noncomputable def iX : List IS := [.asgc 3 4 (.call 32 [(.loc 2), (.lit (.int 6))]) (.bin .add (.lit (.int 97)) (.call 32 [(.loc 2), (.lit (.int 26))])), .ifs (.cmp .eq (.call 32 [(.loc 2), (.lit (.int 2))]) (.lit (.int 1))) [.asg 5 (.meth 13 (.loc 0) [(.bif .bytes [(.loc 3)])]), .expr (.call 35 [(.loc 1), (.lit (.int 4)), (.bin .add (.bif .len [(.loc 3)]) (.lit (.int 1)))]), .seti (.loc 1) (.lit (.int 0)) (.bin .add (.bin .add (.loc 3) (.list [(.lit (.int 0))])) (.idx (.loc 1) (.lit (.int 0))))] [.asg 5 (.meth 14 (.loc 0) [(.bif .bytes [(.loc 3)])]), .expr (.call 35 [(.loc 1), (.lit (.int 4)), (.bif .len [(.loc 3)])]), .seti (.loc 1) (.lit (.int 0)) (.bin .add (.loc 3) (.idx (.loc 1) (.lit (.int 0))))], .expr (.call 36 [(.loc 1), (.bif .len [(.loc 3)]), (.lit (.int 4))]), .ret (.cmp .eq (.loc 5) (.bif .len [(.idx (.loc 1) (.lit (.int 0)))]))]
noncomputable def kO : List Str := [Str.ofString "builder", Str.ofString "pile", Str.ofString "box", Str.ofString "turn"]
noncomputable def lF : List Str := [Str.ofString "a", Str.ofString "b", Str.ofString "begin", Str.ofString "inner", Str.ofString "number", Str.ofString "place", Str.ofString "laid", Str.ofString "there", Str.ofString "offs", Str.ofString "row", Str.ofString "off", Str.ofString "way", Str.ofString "k"]
noncomputable def jO : List IS := [.asg 4 (.call 33 [(.loc 2), (.lit (.int 8))]), .asg 5 (.call 33 [(.loc 2), (.lit (.int 6))]), .expr (.meth 1 (.loc 0) [(.bin .add (.loc 3) (.lit (.int 2)))]), .asg 6 (.bif .len [(.idx (.loc 1) (.lit (.int 0)))]), .expr (.meth 8 (.loc 0) [(.lit (.int 8)), (.lit (.int 16))]), .expr (.meth 7 (.loc 0) [(.lit (.int 6))]), .expr (.meth 32 (.loc 0) [(.loc 5)]), .expr (.meth 34 (.loc 0) [(.loc 4)]), .expr (.meth 25 (.loc 0) [(.loc 3), (.meth 6 (.loc 0) []), (.lit (.int 0))]), .expr (.call 35 [(.loc 1), (.lit (.int 8)), (.lit (.int 16))]), .seti (.loc 1) (.lit (.int 0)) (.bin .add (.bin .mul (.list [(.lit (.int 0))]) (.lit (.int 6))) (.idx (.loc 1) (.lit (.int 0)))), .expr (.call 36 [(.loc 1), (.loc 5), (.lit (.int 2))]), .expr (.call 36 [(.loc 1), (.loc 4), (.lit (.int 8))]), .asg 7 (.bif .len [(.idx (.loc 1) (.lit (.int 0)))]), .asg 8 (.lit (.int 0)), .ifs (.cmp .eq (.call 32 [(.loc 2), (.lit (.int 2))]) (.lit (.int 1))) [.expr (.meth 24 (.loc 0) [(.bin .add (.loc 3) (.lit (.int 1))), (.lit (.int 7)), (.lit (.int 0))]), .expr (.call 36 [(.loc 1), (.lit (.int 7)), (.lit (.int 1))]), .asg 8 (.bif .len [(.idx (.loc 1) (.lit (.int 0)))])] [], .asg 9 (.meth 3 (.loc 0) []), .expr (.call 35 [(.loc 1), (.lit (.int 4)), (.lit (.int 0))]), .asg 10 (.idx (.loc 1) (.lit (.int 0))), .asg 11 (.bin .add (.bif .len [(.loc 10)]) (.lit (.int 4))), .asg 12 (.bin .add (.bin .add (.bin .mul (.list [(.lit (.int 0))]) (.loc 3)) (.list [(.bin .sub (.loc 11) (.loc 7))])) (.ite (.cmp .gt (.loc 8) (.lit (.int 0))) (.list [(.bin .sub (.loc 11) (.loc 8))]) (.list []))), .asg 13 (.bin .add (.list [(.bin .add (.lit (.int 4)) (.bin .mul (.lit (.int 2)) (.bif .len [(.loc 12)]))), (.bin .sub (.loc 11) (.loc 6))]) (.loc 12)), .seti (.loc 1) (.lit (.int 0)) (.bin .add (.list [(.lit (.int 0)), (.lit (.int 0)), (.lit (.int 0)), (.lit (.int 0))]) (.loc 10)), .forl 14 (.rev (.loc 13)) [.expr (.call 35 [(.loc 1), (.lit (.int 2)), (.lit (.int 0))]), .expr (.call 36 [(.loc 1), (.loc 14), (.lit (.int 2))])], .asg 15 (.bin .sub (.bif .len [(.idx (.loc 1) (.lit (.int 0)))]) (.loc 11)), .seti (.loc 1) (.lit (.int 0)) (.bin .add (.bin .add (.slTo (.idx (.loc 1) (.lit (.int 0))) (.loc 15)) (.comp 16 (.lit (.int 4)) (.bin .mod (.bin .fdiv (.loc 15) (.bin .pow (.lit (.int 256)) (.loc 16))) (.lit (.int 256))))) (.loc 10)), .ret (.cmp .eq (.loc 9) (.loc 11))]
noncomputable def mL : List Str := [Str.ofString "builder", Str.ofString "pile", Str.ofString "box", Str.ofString "turn"]
noncomputable def mY : List Str := [Str.ofString "pick", Str.ofString "size", Str.ofString "more", Str.ofString "many", Str.ofString "n", Str.ofString "kind"]
noncomputable def lR : List IS := [.asg 4 (.call 32 [(.loc 2), (.lit (.int 8))]), .ifs (.cmp .eq (.loc 4) (.lit (.int 0))) [.asg 5 (.bin .pow (.lit (.int 2)) (.call 32 [(.loc 2), (.lit (.int 5))])), .asg 6 (.call 32 [(.loc 2), (.lit (.int 9))]), .expr (.meth 8 (.loc 0) [(.loc 5), (.loc 6)]), .expr (.call 35 [(.loc 1), (.loc 5), (.loc 6)])] [.ifs (.cmp .eq (.loc 4) (.lit (.int 1))) [.asg 7 (.call 32 [(.loc 2), (.lit (.int 7))]), .expr (.meth 8 (.loc 0) [(.lit (.int 1)), (.loc 7)]), .expr (.meth 7 (.loc 0) [(.loc 7)]), .expr (.call 35 [(.loc 1), (.lit (.int 1)), (.loc 7)]), .seti (.loc 1) (.lit (.int 0)) (.bin .add (.bin .mul (.list [(.lit (.int 0))]) (.loc 7)) (.idx (.loc 1) (.lit (.int 0))))] [.ifs (.cmp .eq (.loc 4) (.lit (.int 2))) [.asg 8 (.call 33 [(.loc 2), (.lit (.int 3))]), .expr (.meth 8 (.loc 0) [(.lit (.int 1)), (.lit (.int 4))]), .expr (.meth 36 (.loc 0) [(.loc 8), (.glob 19)]), .expr (.call 36 [(.loc 1), (.loc 8), (.lit (.int 4))])] [.ifs (.cmp .eq (.loc 4) (.lit (.int 3))) [.asg 9 (.call 32 [(.loc 2), (.lit (.int 9))]), .asg 8 (.call 33 [(.loc 2), (.loc 9)]), .expr (.call 34 [(.loc 0), (.loc 9), (.loc 8)]), .expr (.call 37 [(.loc 1), (.loc 9), (.loc 8)])] [.ifs (.cmp .eq (.loc 4) (.lit (.int 4))) [.expr (.call 38 [(.loc 0), (.loc 1), (.loc 2)])] [.ifs (.cmp .eq (.loc 4) (.lit (.int 5))) [.ret (.call 39 [(.loc 0), (.loc 1), (.loc 2)])] [.ifs (.cmp .eq (.loc 4) (.lit (.int 6))) [.ret (.call 40 [(.loc 0), (.loc 1), (.loc 2)])] [.ret (.call 41 [(.loc 0), (.loc 1), (.loc 2), (.loc 3)])]]]]]]], .ret (.lit (.bool true))]
noncomputable def mM : List Str := [Str.ofString "builder", Str.ofString "pile"]
noncomputable def nI : List Str := [Str.ofString "data"]
noncomputable def lS : List IS := [.asg 2 (.slot .bytes (.loc 0)), .ret (.and3 (.cmp .eq (.meth 6 (.loc 0) []) (.bif .len [(.idx (.loc 1) (.lit (.int 0)))])) (.cmp .eq (.meth 5 (.loc 0) []) (.bin .sub (.bif .len [(.loc 2)]) (.bif .len [(.idx (.loc 1) (.lit (.int 0)))]))) (.cmp .eq (.bif .list [(.slFrom (.loc 2) (.meth 5 (.loc 0) []))]) (.idx (.loc 1) (.lit (.int 0)))))]
noncomputable def fY : List Str := [Str.ofString "script"]
noncomputable def rest_law : List Str := [Str.ofString "box", Str.ofString "builder", Str.ofString "pile", Str.ofString "turn", Str.ofString "root", Str.ofString "how", Str.ofString "most", Str.ofString "more", Str.ofString "data"]
noncomputable def ir_law : List IS := [.forr 4 [(.lit (.int 10))] [.ifs (.or (.cmp .eq (.loc 4) (.lit (.int 0))) (.cmp .lt (.idx (.loc 1) (.lit (.int 1))) (.bif .len [(.idx (.loc 1) (.lit (.int 0)))]))) [.ifs (.or (.un .not (.call 42 [(.loc 2), (.loc 3), (.loc 1), (.loc 4)])) (.un .not (.call 43 [(.loc 2), (.loc 3)]))) [.ret (.lit (.bool false))] []] []], .asg 5 (.call 32 [(.loc 1), (.bin .add (.bif .len [(.idx (.loc 3) (.lit (.int 0)))]) (.lit (.int 1)))]), .asg 6 (.call 32 [(.loc 1), (.lit (.int 4))]), .asg 7 (.idx (.loc 3) (.lit (.int 1))), .ifs (.cmp .eq (.bin .mod (.loc 6) (.lit (.int 2))) (.lit (.int 1))) [.expr (.meth 21 (.loc 2) [(.loc 5), (.ite (.cmp .gt (.loc 6) (.lit (.int 1))) (.lit (.bytes [80, 73, 76, 69])) (.lit .none))])] [.expr (.meth 20 (.loc 2) [(.loc 5), (.ite (.cmp .gt (.loc 6) (.lit (.int 1))) (.lit (.bytes [80, 73, 76, 69])) (.lit .none))])], .asg 8 (.bin .mul (.lit (.int 4)) (.bin .add (.bin .add (.lit (.int 1)) (.bin .mod (.loc 6) (.lit (.int 2)))) (.bin .fdiv (.loc 6) (.lit (.int 2))))), .expr (.call 35 [(.loc 3), (.loc 7), (.loc 8)]), .ifs (.cmp .gt (.loc 6) (.lit (.int 1))) [.expr (.call 35 [(.loc 3), (.lit (.int 4)), (.lit (.int 4))]), .seti (.loc 3) (.lit (.int 0)) (.bin .add (.list [(.lit (.int 80)), (.lit (.int 73)), (.lit (.int 76)), (.lit (.int 69))]) (.idx (.loc 3) (.lit (.int 0))))] [], .expr (.call 35 [(.loc 3), (.lit (.int 4)), (.lit (.int 0))]), .expr (.call 36 [(.loc 3), (.bin .add (.bin .sub (.bif .len [(.idx (.loc 3) (.lit (.int 0)))]) (.loc 5)) (.lit (.int 4))), (.lit (.int 4))]), .ifs (.cmp .eq (.bin .mod (.loc 6) (.lit (.int 2))) (.lit (.int 1))) [.expr (.call 35 [(.loc 3), (.lit (.int 4)), (.lit (.int 0))]), .expr (.call 36 [(.loc 3), (.bif .len [(.idx (.loc 3) (.lit (.int 0)))]), (.lit (.int 4))])] [], .asg 9 (.bif .bytes [(.meth 0 (.loc 2) [])]), .ret (.and3 (.call 43 [(.loc 2), (.loc 3)]) (.cmp .eq (.loc 9) (.bif .bytes [(.idx (.loc 3) (.lit (.int 0)))])) (.cmp .eq (.bin .mod (.bif .len [(.loc 9)]) (.loc 7)) (.lit (.int 0))))]
end Fb
namespace Fb
noncomputable def fnOf (K : Frag) (f : Addr) : Option FuncData := match K.lookup f with | some o => (match o.data with | .func fd => some fd | _ => none) | none => none
noncomputable def codeOk (K : Frag) (cd : Value) (q : Str) : Bool := match cd with
  | .ref c => (match K.lookup c with | some (o : Obj) => (match o.data with | Data.fields vs => (match vs[1]? with | some (Value.str q' _) => q' == q | _ => false) | _ => false) | none => false)
  | _ => false
noncomputable def chkFn (K : Frag) (f : Addr) (names rest : List Str) (irs : List IS) : Bool := match fnOf K f with
  | some fd => (match fd.body with | .stmts b => dC (chkS 30 (names ++ rest) fd.scope) b irs | _ => false) && fd.globals == mainGlobals && fd.builtins == builtinsNs && fd.closure.isEmpty && !fd.scope.isCoroutine && !fd.scope.isGenerator && fd.scope.kind == .function && names.all (fun x => stK (fd.scope.names.lookup x)) && codeOk K fd.code fd.qualname
  | none => false
noncomputable def avB : AV -> Value -> Bool
  | .int i, .int j _ => i == j
  | .bool b, .bool c => b == c
  | .cst u, v => u == v
  | _, _ => false
noncomputable def globB (K : Frag) (x : Str) (av : AV) : Bool := match nsIn K mainGlobals x with
  | some (some v) => avB av v
  | some none => (match av with | .cst v => bootBuiltins x == some v && !(x == ("__name__" : Str)) | _ => false)
  | none => false
noncomputable def slotB (K : Frag) (k : Sl) : Bool := plainGet K 729 k.name && isClsIn K 729 && findIn K (.ref 729) k.name == some (some (.ref k.addr)) && specialIn K (.ref k.addr) "__get__" == some (some (.builtin "member_descriptor.__get__")) &&
    takesIn K (.ref k.addr) == some true && slotIn K k.addr 729 == some k.idx && takerIn K 729 k.name == some (some (.ref k.addr)) && typeIn K (.ref k.addr) == some (.type "member_descriptor")
noncomputable def allSl : List Sl := [.vtables, .vne, .shared, .oend, .nested, .minalign, .head, .force, .fin, .cv, .bytes]
noncomputable def allCa : List CA := [.bytewidth, .min_val, .max_val, .packer_type, .py_type, .maxbuf]
noncomputable def clsL : List Addr := caTab.map fun r => r.c
noncomputable def isUnb : AV -> Bool
  | .unb => true
  | _ => false
noncomputable def isPy : CA -> Bool
  | .py_type => true
  | _ => false
noncomputable def caB (K : Frag) (c : Addr) (x : CA) : Bool := isPy x || isUnb (cI c x) || (readsIn K c (.type "type") && (match findCls K (.ref c) (.type "type") x.name with | some (.val v) => handedIn v && avB (cI c x) v | _ => false))
noncomputable def factsB (K : Frag) : Bool :=
  allSl.all (slotB K) &&
  (findIn K (.ref 729) "__setattr__" == some (some (.builtin "object.__setattr__")) && plainOver K 729) &&
  bN.all (fun p => globB K p.1 p.2) &&
  (List.range bN.length).all (fun i => !callable i || (match bN[i]? with | some p => (match p.2 with | AV.cst (Value.ref a) => keepIn K (.ref a) | _ => true) | none => true)) &&
  oB.all (fun p => plainGet K 729 p.1 && findIn K (.ref 729) p.1 == some (some (.ref p.2)) && isFn K (.ref p.2) && keepIn K (.ref p.2)) &&
  clsL.all (fun c => allCa.all fun x => caB K c x) &&
  clsL.all (fun c => isUnb (cI c .py_type) || (readsIn K c (.type "type") && findIn K (.type "type") (CA.name .py_type) == some none && findIn K (.ref c) (CA.name .py_type) == some (some (.type "int")))) &&
  clsL.all (fun c => isUnb (cI c .py_type) || specialIn K (.ref c) "__getattribute__" == some (some (.builtin "type.__getattribute__")))
theorem caVal_in {c : Addr} {x : CA} (h : cI c x ≠ .unb) : c ∈ clsL := by
  obtain ⟨r, zq0⟩ := caVal_row h; have hr := zq0.1; obtain rfl := zq0.2.1
  exact List.mem_map_of_mem (f := fun r => r.c) hr
noncomputable def cstInt : AV -> Bool
  | .cst _ => true
  | .int _ => true
  | _ => false
theorem cstInt_is {a : AV} (h : cstInt a = true) : (∃ v, a = .cst v) \/ ∃ i, a = .int i := by
  induction a using AV.casesOn with
  | cst v => exact .inl ⟨v, rfl⟩
  | int i => exact .inr ⟨i, rfl⟩
  | _ => exact Bool.noConfusion h
theorem notUnb {a : AV} (h : a ≠ .unb) : isUnb a = false := by induction a using AV.casesOn <;> first | rfl | exact absurd rfl h
noncomputable def AvIs (a : AV) (v : Value) : Prop := match a with
    | .int i => ∃ t, v = .int i t
    | .bool b => v = .bool b
    | .cst u => v = u
    | _ => False
theorem avB_ok {a : AV} {v : Value} (h : avB a v = true) : AvIs a v := by
  unfold avB at h
  split at h
  . have := eq_of_beq h; subst this; exact ⟨_, rfl⟩
  . have := eq_of_beq h; subst this; rfl
  . have := eq_of_beq h; subst this; rfl
  . exact ff h
set_option tactic.hygienic true in
theorem globB_ok {K : Frag} {x : Str} {av : AV} (h : globB K x av = true) (hav : (∃ v, av = .cst v) \/ ∃ i, av = .int i) : GlobIs K x av := by
  unfold globB at h
  split at h
  . rename_i v hv
    rcases hav with ⟨u, rfl⟩ | ⟨i, rfl⟩
    . have : (u == v) = true := h
      rw [eq_of_beq this]; exact .inl hv
    . cases v <;> simp [avB] at h
      subst h; exact ⟨_, hv⟩
  . rename_i hv
    split at h
    . simp only [Bool.and_eq_true, beq_iff_eq, Bool.not_eq_true', beq_eq_false_iff_ne] at h
      exact .inr ⟨hv, h.1, h.2⟩
    . exact ff h
  . exact ff h
theorem all3 {α : Type} {l : List α} {p : α -> Bool} (h : l.all p = true) : ∀ x ∈ l, p x = true := List.all_eq_true.mp h
theorem mem_sl (k : Sl) : k ∈ allSl := List.mem_of_getElem? (i := 10 - k.idx) (by induction k using Sl.casesOn <;> rfl)
theorem mem_ca (x : CA) : x ∈ allCa := List.mem_of_getElem? (i := match x with | .bytewidth => 0 | .min_val => 1 | .max_val => 2 | .packer_type => 3 | .py_type => 4 | .maxbuf => 5) (by induction x using CA.casesOn <;> rfl)
theorem facts_ok {K : Frag} (h : factsB K = true) : KFacts K := by
  refine bcn fun nG => ?_; obtain ⟨h, h8⟩ := Bool.and_eq_true_iff.mp h
  obtain ⟨h, h9⟩ := Bool.and_eq_true_iff.mp h
  obtain ⟨h, h7⟩ := Bool.and_eq_true_iff.mp h
  obtain ⟨h, h6⟩ := Bool.and_eq_true_iff.mp h
  obtain ⟨h, h5⟩ := Bool.and_eq_true_iff.mp h
  obtain ⟨h, h4⟩ := Bool.and_eq_true_iff.mp h
  obtain ⟨h1, h2⟩ := Bool.and_eq_true_iff.mp h
  obtain ⟨h2, h3⟩ := Bool.and_eq_true_iff.mp h2
  refine nG ?_; refine ⟨fun k => ?_, ⟨eq_of_beq h2, h3⟩, fun i x v hi => ?_, fun i x a hc hi => ?_, fun i x a hi => ?_, fun c x hx hu => ?_, fun c hu => ?_, fun c hu => ?_⟩
  . have h := all3 h1 k (mem_sl k)
    refine bcn fun nG => ?_; obtain ⟨h, i⟩ := Bool.and_eq_true_iff.mp h
    obtain ⟨h, g⟩ := Bool.and_eq_true_iff.mp h
    obtain ⟨h, f⟩ := Bool.and_eq_true_iff.mp h
    obtain ⟨h, e⟩ := Bool.and_eq_true_iff.mp h
    obtain ⟨h, d⟩ := Bool.and_eq_true_iff.mp h
    obtain ⟨h, c⟩ := Bool.and_eq_true_iff.mp h
    obtain ⟨a, b⟩ := Bool.and_eq_true_iff.mp h
    refine nG ?_; exact ⟨a, b, eq_of_beq c, eq_of_beq d, eq_of_beq e, eq_of_beq f, eq_of_beq g, eq_of_beq i⟩
  . refine globB_ok (all3 h4 _ (List.mem_of_getElem? hi)) ?_
    exact cstInt_is (all3 (show (bN.all fun p => cstInt p.2) = true from rfl) _ (List.mem_of_getElem? hi))
  . have := all3 h5 i (List.mem_range.mpr (List.getElem?_eq_some_iff.mp hi).1)
    rw [hc, hi] at this
    exact this
  . have h := all3 h6 _ (List.mem_of_getElem? hi)
    refine bcn fun nG => ?_; obtain ⟨h, d⟩ := Bool.and_eq_true_iff.mp h
    obtain ⟨h, c⟩ := Bool.and_eq_true_iff.mp h
    obtain ⟨a, b⟩ := Bool.and_eq_true_iff.mp h
    refine nG ?_; exact ⟨a, eq_of_beq b, c, d⟩
  . have this : caB K c x = true := all3 (all3 h7 c (caVal_in hu)) x (mem_ca x)
    unfold caB at this
    rw [notUnb hu, show isPy x = false by induction x using CA.casesOn <;> first | rfl | exact absurd rfl hx, Bool.false_or, Bool.false_or] at this
    refine bcn fun nG => ?_; obtain ⟨a, b⟩ := Bool.and_eq_true_iff.mp this
    refine nG ?_; refine ⟨a, ?_⟩
    induction hv : findCls K (.ref c) (.type "type") x.name using Option.casesOn with
    | none => rw [hv] at b; exact Bool.noConfusion b
    | some f =>
      rw [hv] at b
      cases f with
      | val v => exact ⟨v, rfl, (Bool.and_eq_true_iff.mp b).1, avB_ok (Bool.and_eq_true_iff.mp b).2⟩
      | _ => exact Bool.noConfusion b
  . have this := all3 h9 c (caVal_in hu)
    rw [notUnb hu, Bool.false_or] at this
    refine bcn fun nG => ?_; obtain ⟨this, c⟩ := Bool.and_eq_true_iff.mp this
    obtain ⟨a, b⟩ := Bool.and_eq_true_iff.mp this
    refine nG ?_; exact ⟨a, eq_of_beq b, eq_of_beq c⟩
  . have this := all3 h8 c (caVal_in hu)
    rw [notUnb hu, Bool.false_or] at this
    exact eq_of_beq this
end Fb
namespace Fb
section
variable {prog : Program} {w : World} {A : Around} {E : Value -> Shared -> Prop} {s : Shared} {g : Heap} {ρ : Ad} {σ : St} {lev : Nat} {Kc : AV -> St -> Prop} {Q : Value -> Shared -> Prop}
theorem PostE.int (hP : PostE g ρ σ s Kc Q) (D : Dyn g ρ σ s.heap) {i : Int} {t : Tok} (hk : Kc (.int i) σ) (tk : Nat) : Q (.int i t) (Fb.sh s s.heap tk) :=
  hP _ _ ρ σ s.heap tk hk D (Stp.refl ..) (.int _ _)
theorem nN {l : Addr} {items : Array Value} {n : Nat} (D : Dyn g ρ σ s.heap) (hl : s.heap.IsList l items) (hn : items.size = n) (hs : n <= 1000000) (hk : Kc (.int n) σ) (hP : PostE g ρ σ s Kc Q) : wpAny (model prog w) A (call (.builtin "len") [.ref l]) Q E s := by
  subst hn
  exact call_len_list hl (by lia) (hP.int D hk _)
theorem bi_len_bytes {l : List UInt8} {t : Tok} (D : Dyn g ρ σ s.heap) (hs : l.length <= 1000000) (hk : Kc (.int l.length) σ) (hP : PostE g ρ σ s Kc Q) : wpAny (model prog w) A (call (.builtin "len") [.bytes l.toArray t]) Q E s := by
  refine PySem.W.len_bytes (by simp; (exact Nat.le_trans (by assumption) (Nat.le_add_left _ _))) ?_
  have : ((l.toArray.size : Nat) : Int) = (l.length : Int) := by simp
  rw [this]
  exact hP.int D hk _
theorem bi_max {a b : Int} {t u : Tok} (hB : Bud lev A) (D : Dyn g ρ σ s.heap) (hk : Kc (.int (max a b)) σ) (hP : PostE g ρ σ s Kc Q) : wpAny (model prog w) A (call (.builtin "max") [.int a t, .int b u]) Q E s := by
  refine max_two_ints hB.hd fun h' tk k => ?_
  have G : Grows s.heap h' := k
  split
  . rw [show max a b = b by (exact Int.max_eq_right (by exact Int.le_of_lt (by assumption)))] at hk; exact hP _ _ ρ σ h' tk hk (D.grow G) G.stp (.int _ _)
  . rw [show max a b = a by (exact Int.max_eq_left (by exact Int.not_lt.mp (by assumption)))] at hk; exact hP _ _ ρ σ h' tk hk (D.grow G) G.stp (.int _ _)
theorem bi_min {a b : Int} {t u : Tok} (hB : Bud lev A) (D : Dyn g ρ σ s.heap) (hk : Kc (.int (min a b)) σ) (hP : PostE g ρ σ s Kc Q) : wpAny (model prog w) A (call (.builtin "min") [.int a t, .int b u]) Q E s := by
  refine min_two_ints hB.hd fun h' tk k => ?_
  have G : Grows s.heap h' := k
  split
  . rw [show min a b = b by (exact Int.min_eq_right (Int.le_of_lt (by assumption)))] at hk; exact hP _ _ ρ σ h' tk hk (D.grow G) G.stp (.int _ _)
  . rw [show min a b = a by (exact Int.min_eq_left (by exact Int.not_lt.mp (by assumption)))] at hk; exact hP _ _ ρ σ h' tk hk (D.grow G) G.stp (.int _ _)
theorem bi_int {a : Int} {t : Tok} (D : Dyn g ρ σ s.heap) (hk : Kc (.int a) σ) (hP : PostE g ρ σ s Kc Q) : wpAny (model prog w) A (call (.type "int") [.int a t]) Q E s :=
  call_int_int (hP.int D hk s.toks)
theorem bi_int_bool {b : Bool} (D : Dyn g ρ σ s.heap) (hk : Kc (.int (if b then 1 else 0)) σ) (hP : PostE g ρ σ s Kc Q) : wpAny (model prog w) A (call (.type "int") [.bool b]) Q E s :=
  call_int_bool (hP.int D hk _)
theorem bi_tuple {l : Addr} {items : Array Value} {is : List Int} (D : Dyn g ρ σ s.heap) (hl : s.heap.IsList l items) (hi : IntsAre items.toList is) (hs : is.length <= 1000000) (hk : Kc (.itup is) σ) (hP : PostE g ρ σ s Kc Q) : wpAny (model prog w) A (call (.type "tuple") [.ref l]) Q E s := by
  have hlen := bI hi
  refine call_tuple_list hl (fun h' k => ?_) (by rw [sizeLine_eq]; simp at hlen; (rw [hlen]; lia))
  have G : Grows s.heap h' := k
  have G2 := G.trans (Grows.push h' (tob items 0))
  refine hP _ _ ρ σ _ s.toks hk (D.grow G2) G2.stp (.itup ((D.grow G).fresh (Nat.le_refl _)) (Heap.get?_push_size _ rfl) hi)
theorem bi_bytes {l : Addr} {items : Array Value} {is : List Int} (hB : Bud lev A) (D : Dyn g ρ σ s.heap) (hl : s.heap.IsList l items) (hi : IntsAre items.toList is) (hs : is.length <= 1000000) (hr : ∀ x ∈ is, 0 <= x /\ x < 256) (hk : Kc (.bytes (is.map fun x => UInt8.ofNat x.toNat)) σ) (hP : PostE g ρ σ s Kc Q) : wpAny (model prog w) A (call (.type "bytes") [.ref l]) Q E s := by
  have hlen := bI hi
  refine call_bytes_ints (vs := items.toList) (ns := is) (by simpa using hl) hi hr (by rw [sizeLine_eq]; simp at hlen ⊢; lia) hB.hd fun h' t k kk => ?_
  have G : Grows s.heap h' := kk
  have : byteArr is = (is.map fun x => UInt8.ofNat x.toNat).toArray := rfl
  rw [this]
  exact hP _ _ ρ σ h' k hk (D.grow G) G.stp (.bytes _ _)
end
end Fb
namespace Fb
theorem owner_ba : Manifest.owners.lookup (String.ofList ['y', 'a', 'r', 'r', 'a', 'e', 't', 'y', 'b'].reverse) = some Manifest.sig_bytearray := by kernel_rfl
theorem mV : Slot "bytearray" "__len__" "bytearray.__len__" :=
  .of (owner := "bytearray") (n := "__len__") (by rw [typeLookup_type, builtinLookup_eq_fast]; kernel_rfl) (by decide +kernel) (by decide +kernel) (by decide +kernel)
    (by first | exact .inl (by decide +kernel) | exact .inr (by decide +kernel)) (by rw [isSubtype_type]; kernel_rfl)
theorem entry_ba_len : entryFor table "bytearray.__len__" = some Builtin.«bytearray.__len__» := entryFor_of_tree (by kernel_rfl)
theorem args_ba_len (a : Value) : argsOk "bytearray.__len__" ⟨[a], []⟩ := by
  unfold argsOk; rw [signature?_of (id := "bytearray.__len__") (n := ['_', '_', 'n', 'e', 'l', '_', '_']) (o := ['y', 'a', 'r', 'r', 'a', 'e', 't', 'y', 'b']) (by kernel_rfl) owner_ba]; kernel_rfl
theorem mO : Slot "bytearray" "__getitem__" "bytearray.__getitem__" :=
  .of (owner := "bytearray") (n := "__getitem__") (by rw [typeLookup_type, builtinLookup_eq_fast]; kernel_rfl) (by decide +kernel) (by decide +kernel) (by decide +kernel)
    (by first | exact .inl (by decide +kernel) | exact .inr (by decide +kernel)) (by rw [isSubtype_type]; kernel_rfl)
theorem entry_ba_getitem : entryFor table "bytearray.__getitem__" = some Builtin.«bytearray.__getitem__» := entryFor_of_tree (by kernel_rfl)
theorem args_ba_getitem (a b : Value) : argsOk "bytearray.__getitem__" ⟨[a, b], []⟩ := by
  unfold argsOk; rw [signature?_of (id := "bytearray.__getitem__") (n := ['_', '_', 'm', 'e', 't', 'i', 't', 'e', 'g', '_', '_']) (o := ['y', 'a', 'r', 'r', 'a', 'e', 't', 'y', 'b']) (by kernel_rfl) owner_ba]; kernel_rfl
section
variable {prog : Program} {w : World} {A : Around} {E : Value -> Shared -> Prop} {s : Shared} {g : Heap} {ρ : Ad} {σ : St} {lev : Nat} {Kc : AV -> St -> Prop} {Q : Value -> Shared -> Prop}
theorem lT {a : Addr} {l : List UInt8} {M : Model} {Q : Array UInt8 -> Shared -> Prop} (e : s.heap.get? a = some (bob l)) (h : Q l.toArray s) : wpAny M A (Builtin.Bytes.payload (.ref a)) Q E s := by
  unfold Builtin.Bytes.payload Builtin.Bytes.payload?
  exact wpAny_bind (wpAny_bind (wpAny_load e (wpAny_pure (wpAny_pure h))))
theorem bi_len_ba {a : Addr} {l : List UInt8} (e : s.heap.get? a = some (bob l)) (D : Dyn g ρ σ s.heap) (hs : l.length <= 1000000) (hk : Kc (.int l.length) σ) (hP : PostE g ρ σ s Kc Q) : wpAny (model prog w) A (call (.builtin "len") [.ref a]) Q E s := by
  refine call_len_slot (n := l.length) ⟨_, e, rfl⟩ mV (fun Q' h => wpAny_call_entry mV ⟨_, e, rfl⟩ entry_ba_len ?_ (args_ba_len _)) (by simp) (by lia) (hP.int D hk _)
  show wpAny _ _ (Builtin.Bytes.payload (.ref a) >>= fun b => retInt b.size) _ _ _
  refine wpAny_bind (lT e ?_)
  have : ((l.toArray.size : Nat) : Int) = (l.length : Int) := by simp
  rw [this]
  exact wpAny_bind (wpAny_mkInt (wpAny_pure ⟨_, rfl, h⟩))
theorem sliced_from (l : List UInt8) (i : Int) (h0 : 0 <= i) (h1 : i <= l.length) : Builtin.Bytes.sliced l.toArray (sliceBounds (some i) none none l.toArray.size).1 (sliceBounds (some i) none none l.toArray.size).2.1 (sliceBounds (some i) none none l.toArray.size).2.2 = (l.drop i.toNat).toArray := by
  have e : sliceBounds (some i) none none l.toArray.size = (((i.toNat : Nat) : Int), ((l.length : Nat) : Int), 1) := by
    simp only [sliceBounds, Option.getD_none, List.size_toArray, show (1 : Int) > 0 by decide, if_true, if_neg (show ¬ i < 0 by lia)]
    congr 1
    lia
  rw [e]
  unfold Builtin.Bytes.sliced
  rw [sliceRange_one, pick_run]
  simp only []
  rw [List.take_of_length_le (by simp)]
theorem meets_ba_from {x a : Addr} {l : List UInt8} {i : Int} {t : Tok} (h0 : 0 <= i) (h1 : i <= l.length) (hs : l.length <= 1000000) :
    Meets (Builtin.«bytearray.__getitem__» ⟨[.ref x, .ref a], []⟩) (fun _ R s => s.heap.get? x = some (bob l) /\ s.heap.IsSliceOf a (.int i t) .none .none /\ R (.ok (.ret (.ref s.heap.objs.size))) { s with heap := s.heap.push (bob (l.drop i.toNat)) }) := by
  refine .of_wp fun prog w A R s hS => ?_
  have ex := hS.1; obtain ⟨o, zq0⟩ := hS.2.1; have ho := zq0.1; have hc := zq0.2.1; have hd := zq0.2.2; have h := hS.2.2; clear hS
  have hT : s.TypeIs (.ref a) "slice" := ⟨o, ho, hc⟩
  show wpAny _ _ (Builtin.Bytes.subscript? (.ref a) >>= fun r => _) _ _ s
  refine wpAny_bind ?_
  unfold Builtin.Bytes.subscript?
  refine wpAny_bind (wpAny_specialOf hT slice_no_index (wpAny_pure ?_))
  refine wpAny_bind (wpAny_typeOf hT ?_)
  show wpAny _ _ (Builtin.Bytes.sliceParts (.ref a) >>= fun r => _) _ _ s
  refine wpAny_bind ?_
  unfold Builtin.Bytes.sliceParts
  refine wpAny_bind (wpAny_field (x := .none) ho hd rfl ?_)
  kby_none
  refine wpAny_ite (KBy.ite_no (show ¬ ((Value.none == rawInt 0) = true) from Bool.false_ne_true) ?_)
  refine wpAny_bind (wpAny_field (x := .int i t) ho hd rfl ?_)
  kby_int
  refine wpAny_bind (wpAny_field (x := .none) ho hd rfl ?_)
  kby_none
  refine wpAny_pure ?_
  show wpAny _ _ (Builtin.Bytes.payload (.ref x) >>= fun r => _) _ _ s
  refine wpAny_bind (lT ex ?_)
  have go : wpAny (model prog w) A.in1 (sliceIndices (rawPart (some i)) (rawPart none) (rawPart none) l.toArray.size) (fun r s' => r = sliceBounds (some i) none none l.toArray.size /\ s' = s) (fun _ _ => False) s :=
    wpAny_of_eq (sliceIndices_raw (some i) none none l.toArray.size (fun e => nomatch e)) ⟨rfl, rfl⟩
  refine wpAny_bind (wpAny_mono go (fun r s' hr => ?_) fun _ _ e => e.elim)
  have hr1 := hr.1; have hr2 := hr.2; clear hr
  subst hr1 hr2
  have e := sliced_from l i h0 h1
  show wpAny _ _ (Builtin.Bytes.newBytearray (Builtin.Bytes.sliced l.toArray (sliceBounds (some i) none none l.toArray.size).1 (sliceBounds (some i) none none l.toArray.size).2.1 (sliceBounds (some i) none none l.toArray.size).2.2) >>= fun v => ret v) _ _ _
  rw [e]
  exact wpAny_bind (wpAny_newObj_type (wpAny_pure ⟨_, rfl, h⟩) (by show (l.drop i.toNat).toArray.size <= sizeLine; rw [sizeLine_eq]; simp; (exact Nat.le_trans (by assumption) (by lia))))
theorem bsl_ok : BslOk prog w g lev := by
  intro value lx p A s ρ σ a b v u Kc Q E hB D ra rb hw hP
  obtain ⟨n, zq0⟩ := aBb_inv hw; obtain rfl := zq0.1; have hw := zq0.2
  refine int1 hw rb fun i t hw => ?_
  have q1 := hw.1.1; have q2 := hw.1.2.1; have q3 := hw.1.2.2.1; have q4 := hw.1.2.2.2; have hk := hw.2; clear hw
  obtain rfl := ra.bb_inv q1
  have G := Grows.push s.heap (sob (.int i t) .none .none)
  have eb := G _ _ D.ba
  have hT : ({ s with heap := s.heap.push (sob (.int i t) .none .none) } : Shared).TypeIs (.ref ρ.ba) "bytearray" := ⟨_, eb, rfl⟩
  have G2 := G.trans (Grows.push _ (bob (σ.bytes.drop i.toNat)))
  refine tail_any (T := "bytearray") (ops := [.ref s.heap.objs.size, .ref ρ.ba]) hT mO.lookup (getItem_meets hT (by decide) mO entry_ba_getitem (args_ba_getitem _ _) (meets_ba_from q2 q3 q4) ⟨eb, Heap.IsSliceOf.new .., ?_⟩) rfl
  exact hP _ _ ρ σ _ s.toks hk (D.grow G2) G2.stp (.barr ((D.grow G).fresh (Nat.le_refl _)) (Heap.get?_push_size _ rfl))
end
end Fb
namespace Fb
theorem newTb_ok {prog : Program} {w : World} {lev : Nat} : NewTb prog w lev := by
  intro A s n t Q E hB h0 h1 h
  refine N.ctorInt hB.gd h0 h1 fun h' e' k => ?_
  have hn : s.heap.get? s.heap.objs.size = none := by
    induction e : s.heap.get? s.heap.objs.size using Option.casesOn with
    | none => rfl
    | some o => exact absurd (Heap.lt_size e) (Nat.lt_irrefl _)
  exact h h' s.toks _ k hn e'
theorem setB_ok {prog : Program} {w : World} {lev : Nat} : SetB prog w lev := by
  intro A s a sa l raw x t hi v Q E hB ea es hv h0 h1 h2 h
  have hT : s.TypeIs (.ref a) "bytearray" := ⟨_, ea, rfl⟩
  unfold setItem
  first | refine aI ?_ | skip
  refine aM (wpAny_sequenceKey hT (by decide) ?_)
  refine aA (N.special (name := Str.ofString "__setitem__") hT N.slot_ba_set (cX (N.callBuiltinN (N.okB (by decide +kernel)) N.plain_ba_set N.entry_ba_set (aB (N.slot_ba_set.check _ _ _ _ _ _ _ _ hT (N.args_ba_set _ _ _) (N.setBody hB.gd ea es hv h0 h1 h2 fun h' e' k => ?_))))))
  exact aC (h h' s.toks e' k)
end Fb
namespace Fb
set_option tactic.hygienic true in
theorem code_of {K : Frag} {cd : Value} {q : Str} (h : codeOk K cd q = true) (hp : Heap) (X : K.In hp) : hp.CodeRec cd q := by
  unfold codeOk at h
  split at h
  . rename_i c
    split at h
    . rename_i o ho
      split at h
      . rename_i vs hd
        split at h
        . rename_i q' t hq
          exact ⟨c, o, vs, t, rfl, X _ _ ho, hd, by rw [hq, eq_of_beq h]⟩
        . exact ff h
      . exact ff h
    . exact ff h
  . exact ff h
end Fb
namespace Fb
theorem plainAttrs_struct : PlainAttrs "_struct.Struct" :=
  ⟨⟨"_struct.Struct.__getattribute__", by rw [typeLookup_type, builtinLookup_eq_fast]; kernel_rfl, by decide +kernel⟩, by rw [typeLookup_type, builtinLookup_eq_fast]; kernel_rfl⟩
theorem slot_pack : Slot "_struct.Struct" "pack_into" "_struct.Struct.pack_into" :=
  .of (owner := "_struct.Struct") (n := "pack_into") (by rw [typeLookup_type, builtinLookup_eq_fast]; kernel_rfl) (by decide +kernel) (by decide +kernel) (by decide +kernel)
    (by first | exact .inl (by decide +kernel) | exact .inr (by decide +kernel)) (by rw [isSubtype_type]; kernel_rfl)
theorem type_pack : typeOf (.builtin "_struct.Struct.pack_into") = pure (.type "method_descriptor") := by show builtinType _ = _; rw [builtinType_eq_fast]; kernel_rfl
noncomputable def structB (K : Frag) : Bool := [52, 53, 54, 55, 56, 57, 58, 59, 60].all fun a => match K.lookup a with
  | some o => o.cls == .type "_struct.Struct" && o.dict == none
  | none => false
theorem packMeth_ok {prog : Program} {w : World} {g : Heap} {K : Frag} (X : K.In g) (h : structB K = true) : PackMeth prog w g := by
  intro A s f pl Q E st hf hQ
  induction hy : fL f using Option.casesOn with
  | none => rw [hy] at hf; exact Bool.noConfusion hf
  | some y =>
  have this := List.all_eq_true.mp h f (jI (P := fun x => x.1 ∈ [52, 53, 54, 55, 56, 57, 58, 59, 60]) hy (by decide) (by decide) (by decide) (by decide) (by decide) (by decide) (by decide) (by decide) (by decide))
  induction ho : K.lookup f using Option.casesOn with
  | none => rw [ho] at this; exact Bool.noConfusion this
  | some o =>
    rw [ho] at this
    obtain ⟨a1, a2⟩ := Bool.and_eq_true_iff.mp this
    have e := st _ _ (X _ _ ho)
    refine getMethod_builtin ⟨o, e, eq_of_beq a1⟩ plainAttrs_struct slot_pack type_pack (fun a q => ?_) hQ
    cases q; exact ⟨o, e, eq_of_beq a2⟩
end Fb
set_option genInjectivity false
set_option genCtorIdx false
set_option genSizeOf false
namespace Fb
noncomputable abbrev fuel : Nat := 60
noncomputable abbrev Fn := List AV -> St -> (AV -> St -> Prop) -> Prop
theorem ifT {c : Bool} {P Q : Prop} (h : c = true) (p : P) : (c = true -> P) /\ (c = false -> Q) := ⟨fun _ => p, fun e => absurd (h.symm.trans e) (by decide)⟩
theorem ifF {c : Bool} {P Q : Prop} (h : c = false) (p : Q) : (c = true -> P) /\ (c = false -> Q) := ⟨fun e => absurd (h.symm.trans e) (by decide), fun _ => p⟩
noncomputable def Ok (σ : St) (sp : Nat) (out : List UInt8) : Prop := ∃ front : List UInt8, σ.bytes = front ++ out /\ front.length = sp /\ σ.head = (sp : Int) /\ sp + out.length <= 100000
theorem Ok.len {σ : St} {sp : Nat} {out : List UInt8} (h : Ok σ sp out) : σ.bytes.length = sp + out.length := by
  obtain ⟨f, a, b, _⟩ := h; rw [a, List.length_append, b]
theorem Ok.head {σ : St} {sp : Nat} {out : List UInt8} (h : Ok σ sp out) : σ.head = (sp : Int) := by
  obtain ⟨_, _, _, c, _⟩ := h; exact c
theorem Ok.lim {σ : St} {sp : Nat} {out : List UInt8} (h : Ok σ sp out) : sp + out.length <= 100000 := by
  obtain ⟨_, _, _, _, c⟩ := h; exact c
theorem Ok.of {σ σ' : St} {sp : Nat} {out : List UInt8} (h : Ok σ sp out) (hb : σ'.bytes = σ.bytes) (hh : σ'.head = σ.head) : Ok σ' sp out := by
  obtain ⟨f, a, b, c, d⟩ := h; exact ⟨f, hb.trans a, b, hh.trans c, d⟩
theorem Ok.drop {σ : St} {sp : Nat} {out : List UInt8} (h : Ok σ sp out) : σ.bytes.drop σ.head.toNat = out := by
  refine bcn fun nG => ?_; obtain ⟨f, a, b, c, d⟩ := h
  refine nG ?_; rw [a, c, <- b]; simp
theorem aE : ∀ (n : Nat) (i : Int), (aF n i).length = n
  | 0, _ => rfl
  | n + 1, i => by unfold aF; rw [List.length_cons, aE]
theorem nA {l front out raw : List UInt8} {p : Nat} (h : l = front ++ out) (hl : front.length = p + raw.length) : aN l p raw = front.take p ++ (raw ++ out) := by
  subst h
  unfold aN
  rw [List.take_append_of_le_length (by (rw [hl]; lia)), <- hl, List.drop_left]
theorem Ok.put {σ σ' : St} {sp : Nat} {out raw : List UInt8} {p : Int} (h : Ok σ sp out) (hr : raw.length <= sp) (hp : p = (sp : Int) - raw.length) (hb : σ'.bytes = aN σ.bytes p.toNat raw) (hh : σ'.head = p) : Ok σ' (sp - raw.length) (raw ++ out) := by
  refine bcn fun nG => ?_; obtain ⟨f, a, b, c, d⟩ := h
  have hp' : p.toNat = sp - raw.length := by lia
  refine nG ?_; refine ⟨f.take (sp - raw.length), ?_, ?_, ?_, ?_⟩
  . rw [hb, hp', nA a (by (clear hp'; lia))]
  . rw [List.length_take]; (clear hp'; lia)
  . rw [hh, hp]; (clear hp'; (exact (Int.ofNat_sub (by assumption)).symm))
  . rw [List.length_append]; (clear hp'; lia)
theorem pK {l raw : List UInt8} {p : Nat} (h : p + raw.length <= l.length) : (aN l p raw).length = l.length := by
  exact N.put_lenN h
structure Fr (σ σ' : St) : Prop where
  oend : σ'.oend = σ.oend
  nested : σ'.nested = σ.nested
  vne : σ'.vne = σ.vne
  fin : σ'.fin = σ.fin
  cv : σ'.cv = σ.cv
  vts : σ'.vts = σ.vts
  tlv : σ'.tlv = σ.tlv
  tl : σ'.tl = σ.tl
  pile : σ'.pile = σ.pile
  pmax : σ'.pmax = σ.pmax
  script : σ'.script = σ.script
  bi : σ'.bi = σ.bi
  cvv : σ'.cvv = σ.cvv
theorem Fr.refl (σ : St) : Fr σ σ := ⟨rfl, rfl, rfl, rfl, rfl, rfl, rfl, rfl, rfl, rfl, rfl, rfl, rfl⟩
theorem Fr.trans {a b c : St} (x : Fr a b) (y : Fr b c) : Fr a c :=
  ⟨y.1.trans x.1, y.2.trans x.2, y.3.trans x.3, y.4.trans x.4, y.5.trans x.5, y.6.trans x.6, y.7.trans x.7, y.8.trans x.8, y.9.trans x.9, y.10.trans x.10, y.11.trans x.11, y.12.trans x.12, y.13.trans x.13⟩
noncomputable def padN (len size more : Nat) : Nat := (size - (len + more) % size) % size
theorem oE {size len more : Nat} (e : (len + more) % size = 0) : padN len size more = 0 := by
  unfold padN; rw [e]; exact Nat.mod_self size
theorem pad_mod {s x : Nat} (hs : 0 < s) : (x + (s - x % s) % s) % s = 0 := by
  rw [Nat.add_mod_mod, <- Nat.mod_add_mod, Nat.add_sub_cancel' (Nat.le_of_lt (Nat.mod_lt x hs))]; exact Nat.mod_self s
theorem pad_step {s x : Nat} (hs : 0 < s) (e : x % s ≠ 0) : (s - x % s) % s = (s - (x + 1) % s) % s + 1 := by
  rw [<- Nat.mod_add_mod x]
  have hr := Nat.mod_lt x hs
  revert e hr
  generalize x % s = r
  intro e hr
  rw [Nat.mod_eq_of_lt (Nat.sub_lt hs (Nat.pos_of_ne_zero e))]
  rcases Nat.lt_or_ge (r + 1) s with q | q
  . rw [Nat.mod_eq_of_lt q, Nat.mod_eq_of_lt (Nat.sub_lt hs (Nat.succ_pos r)), Nat.sub_succ]; exact (Nat.succ_pred_eq_of_pos (Nat.sub_pos_of_lt hr)).symm
  . have e2 : r + 1 = s := Nat.le_antisymm hr q
    rw [e2, Nat.mod_self, Nat.sub_zero, Nat.mod_self, <- e2]; exact Nat.add_sub_cancel_left r 1
theorem neg_mod {s x : Nat} (hs : 0 < s) : (-(x : Int)) % (s : Int) = ((s - x % s) % s : Nat) := by
  rw [Int.natCast_emod, Int.ofNat_sub (Nat.le_of_lt (Nat.mod_lt x hs)), Int.natCast_emod, <- Int.zero_sub, Int.sub_emod s, Int.sub_emod 0, Int.emod_self, Int.emod_emod, Int.zero_emod]
noncomputable def SHead (S : Fn) : Prop := ∀ σ K, K (.int σ.head) σ -> S [.bld] σ K
theorem head_ok {Γ : Fns} : SHead (aR Γ fuel ir_Head 1 [] 0) := by
  intro σ K hK
  refine ⟨rfl, ?_⟩
  exact hK
noncomputable def SOffset (S : Fn) : Prop := ∀ σ K sp out, Ok σ sp out -> K (.int (out.length : Int)) σ -> S [.bld] σ K
theorem offset_ok {Γ : Fns} : SOffset (aR Γ fuel ir_Offset 1 [] 0) := by
  intro σ K sp out h hK
  refine ⟨rfl, ?_⟩
  have a := h.len; have b := h.head; have c := h.lim
  refine ⟨⟨rfl, by (rw [a]; lia)⟩, ?_⟩
  have e : (σ.bytes.length : Int) - σ.head = out.length := by rw [a, b]; lia
  show K (.int ((σ.bytes.length : Int) - σ.head)) σ
  rw [e]; exact hK
noncomputable def SNest (b : Bool) (S : Fn) : Prop := ∀ σ K, σ.nested = b -> K .none σ -> S [.bld] σ K
theorem nested_ok {Γ : Fns} : SNest true (aR Γ fuel gR 1 [] 0) := by
  intro σ K h hK
  refine ⟨rfl, ?_⟩
  refine And.intro (rfl) ?_
  refine ifF ?_ ?_
  . show (!σ.nested) = false
    rw [h]; rfl
  . skip
    exact hK
theorem notNested_ok {Γ : Fns} : SNest false (aR Γ fuel eB 1 [] 0) := by
  intro σ K h hK
  refine ⟨rfl, ?_⟩
  refine And.intro (rfl) ?_
  refine ifF ?_ ?_
  . show σ.nested = false
    rw [h]
  . skip
    exact hK
noncomputable def fl : Addr -> Option (Nat × Int × Int)
  | 84 => some (1, 0, 255) | 98 => some (2, 0, 65535) | 112 => some (4, 0, 4294967295) | 126 => some (8, 0, 18446744073709551615)
  | 140 => some (1, -128, 127) | 154 => some (2, -32768, 32767) | 168 => some (4, -2147483648, 2147483647) | 182 => some (8, -9223372036854775808, 9223372036854775807)
  | 196 => some (4, -2147483648, 2147483647) | 208 => some (4, 0, 4294967295) | 220 => some (2, 0, 65535)
  | _ => none
noncomputable def SEnf (S : Fn) : Prop := (∀ c w lo hi n σ K, fl c = some (w, lo, hi) -> lo <= n -> n <= hi -> K .none σ -> S [.int n, .cst (.ref c)] σ K) /\ ∀ b σ K, K .none σ -> S [.bool b, .cst (.ref 70)] σ K
theorem enf_ok {Γ : Fns} : SEnf (aR Γ fuel fH 2 [] 0) := by
  constructor
  . intro c w lo hi n σ K hf h1 h2 hK
    unfold fl at hf
    split at hf <;> cases hf <;>
    . refine ⟨rfl, ?_⟩
      refine ifF rfl ?_
      refine ifF rfl ?_
      refine And.intro (fun _ => ?_) (fun h => ?_)
      . skip
        refine ifF ?_ ?_
        . show (!decide (n <= _)) = false
          simpa using h2
        . exact hK
      . exact absurd h1 (of_decide_eq_false h)
  . intro b σ K hK
    refine ⟨rfl, ?_⟩
    refine ifF rfl ?_
    refine ifF rfl ?_
    refine ifT rfl ?_
    refine ifF ?_ ?_
    . induction b using Bool.casesOn <;> rfl
    . exact hK
end Fb
namespace Fb
noncomputable def SPad (S : Fn) : Prop := ∀ σ K sp out (n : Nat), Ok σ sp out -> n <= sp -> n <= 1000 -> (∀ σ', Fr σ σ' -> σ'.minalign = σ.minalign -> Ok σ' (sp - n) (List.replicate n 0 ++ out) -> K .none σ') -> S [.bld, .int n] σ K
theorem pad_ok {Γ : Fns} : SPad (aR Γ fuel ir_Pad 2 [] 1) := by
  intro σ K sp out n h hn hn' hK
  refine ⟨rfl, ?_⟩
  refine And.intro (fun hc => ?_) (fun hc => ?_)
  . skip
    have e : n = 0 := by have := of_decide_eq_true hc; (clear hc; lia)
    subst e
    exact hK σ (Fr.refl σ) rfl (by simpa using h)
  . skip
    have a := h.len; have b := h.head; have c := h.lim
    have hc := of_decide_eq_false hc
    refine ⟨⟨by (exact Int.natCast_nonneg _), by (exact Int.ofNat_le.mpr (by assumption)), by simp, by simp⟩, ?_⟩
    have e : (List.replicate (n : Int).toNat [(0 : UInt8)]).flatten = List.replicate n 0 := by simp
    refine ⟨⟨rfl, ?_, ?_, ?_, ?_⟩, ?_⟩
    . show 0 <= σ.head - n; (rw [b]; lia)
    . show σ.head = σ.head - n + _; rw [e, List.length_replicate]; simp
    . show σ.head <= _; lia
    . show σ.bytes.length <= 1000000; (rw [a]; lia)
    refine hK _ ⟨rfl, rfl, rfl, rfl, rfl, rfl, rfl, rfl, rfl, rfl, rfl, rfl, rfl⟩ rfl ?_
    have := h.put (σ' := ((σ.uBytes (aN σ.bytes (σ.head - n).toNat (List.replicate n 0))).uHead (σ.head - n))) (raw := List.replicate n 0) (p := σ.head - n) (by simpa using hn) (by simp; assumption) rfl rfl
    rw [List.length_replicate] at this
    refine this.of ?_ rfl
    show aN _ _ _ = aN _ _ _
    rw [e]
noncomputable def SWrite (S : Fn) : Prop := (∀ s sz lo hi i (p : Int) σ K, fL s = some (sz, some (lo, hi)) -> lo <= i -> i <= hi -> 0 <= p -> p + sz <= (σ.bytes.length : Int) -> σ.bytes.length <= 1000000 -> K .none (σ.uBytes (aN σ.bytes p.toNat (aF sz i))) -> S [.cst (.ref s), .bb σ.ver, .int p, .int i] σ K) /\
  ∀ (p : Int) σ K (b : Bool), 0 <= p -> p + 1 <= (σ.bytes.length : Int) -> σ.bytes.length <= 1000000 -> K .none (σ.uBytes (aN σ.bytes p.toNat [if b then 1 else 0])) -> S [.cst (.ref 52), .bb σ.ver, .int p, .bool b] σ K
theorem write_ok {Γ : Fns} : SWrite (aR Γ fuel ir_Write 4 [] 0) := by
  constructor
  . intro s sz lo hi i p σ K hf h1 h2 h3 h4 h5 hK
    refine ⟨rfl, ?_⟩
    refine And.intro (show (fL s).isSome = true by rw [hf]; rfl) ?_
    show packK s σ.ver p (.int i) σ _
    unfold packK
    rw [hf]
    exact ⟨⟨rfl, h3, h4, h5⟩, ⟨h1, h2⟩, hK⟩
  . intro p σ K b h1 h2 h3 hK
    refine ⟨rfl, ?_⟩
    refine And.intro (rfl) ?_
    refine ⟨⟨rfl, h1, h2, h3⟩, hK⟩
noncomputable def encV (c : Addr) (v : AV) : Option (List UInt8) := match v with
  | .int i => (match fl c with | some (w, lo, hi) => if lo <= i /\ i <= hi then some (aF w i) else none | none => none)
  | .bool b => if c = 70 then some [if b then 1 else 0] else none
  | _ => none
noncomputable def bD (c : Addr) : Nat := match fl c with | some (w, _) => w | none => 1
noncomputable def packs (c : Addr) : Bool := match cI c .packer_type with | .cst _ => true | _ => false
theorem encV_len {c : Addr} {v : AV} {raw : List UInt8} (h : encV c v = some raw) (hp : packs c = true) : raw.length = bD c := by
  unfold encV at h
  split at h
  . split at h
    . rename_i hf
      split at h
      . (have e9 := Option.some.inj h; clear h; subst e9); rw [aE]; unfold bD; rw [hf]
      . exact nn h
    . exact nn h
  . split at h
    . (have e9 := Option.some.inj h; clear h; subst e9); rename_i hc; subst hc; rfl
    . exact nn h
  . exact nn h
noncomputable abbrev Laid1 (σ : St) (sp w : Nat) (out' : List UInt8) (K : AV -> St -> Prop) : Prop := ∀ σ', Fr σ σ' -> σ'.minalign = σ.minalign -> Ok σ' (sp - w) out' -> K .none σ'
noncomputable def SPlace (S : Fn) : Prop := ∀ c v raw σ K sp out, encV c v = some raw -> packs c = true -> Ok σ sp out -> raw.length <= sp -> Laid1 σ sp raw.length (raw ++ out) K -> S [.bld, v, .cst (.ref c)] σ K
set_option tactic.hygienic true in
theorem place_ok {Γ : Fns} (he : SEnf (Γ 229)) (hw : SWrite (Γ 236)) : SPlace (aR Γ fuel ir_Place 3 [] 1) := by
  intro c v raw σ K sp out hv hp h hr hK
  have a := h.len; have b := h.head; have d := h.lim
  have hl := encV_len hv hp
  unfold encV at hv
  split at hv
  . rename_i i
    split at hv
    . rename_i w lo hi hf
      split at hv
      . rename_i hb
        (have e9 := Option.some.inj hv; clear hv; subst e9)
        rw [aE] at hr hl hK
        unfold fl at hf
        split at hf <;> cases hf <;> first | (cases hp; done) | skip
        all_goals
          refine ⟨rfl, ?_⟩
          refine he.1 _ _ _ _ _ _ _ rfl hb.1 hb.2 ?_
          refine hw.1 _ _ _ _ _ _ (σ.uHead (σ.head - _)) _ rfl hb.1 hb.2 ?_ ?_ ?_ ?_
          . show 0 <= σ.head - _; lia
          . show σ.head - _ + _ <= (σ.bytes.length : Int); lia
          . show σ.bytes.length <= _; lia
          refine hK _ ⟨rfl, rfl, rfl, rfl, rfl, rfl, rfl, rfl, rfl, rfl, rfl, rfl, rfl⟩ rfl ?_
          have := h.put (σ' := ((σ.uBytes (aN σ.bytes (σ.head - _).toNat (aF _ i))).uHead (σ.head - _))) (raw := aF _ i) (by rw [aE]; exact hr) (by rw [aE, b]) rfl rfl
          rw [aE] at this
          exact this
      . exact nn hv
    . exact nn hv
  . rename_i x
    split at hv
    . rename_i hc
      (have e9 := Option.some.inj hv; clear hv; subst e9); subst hc
      simp only [List.length_singleton] at hr hK
      refine ⟨rfl, ?_⟩
      refine he.2 _ _ _ ?_
      refine hw.2 _ (σ.uHead (σ.head - 1)) _ x ?_ ?_ ?_ ?_
      . show 0 <= σ.head - 1; lia
      . show σ.head - 1 + 1 <= (σ.bytes.length : Int); lia
      . show σ.bytes.length <= _; lia
      refine hK _ ⟨rfl, rfl, rfl, rfl, rfl, rfl, rfl, rfl, rfl, rfl, rfl, rfl, rfl⟩ rfl ?_
      exact h.put (σ' := ((σ.uBytes (aN σ.bytes (σ.head - 1).toNat [if x then 1 else 0])).uHead (σ.head - 1))) (raw := [if x then 1 else 0]) hr (by rw [b]; rfl) rfl rfl
    . exact nn hv
  . exact nn hv
end Fb
namespace Fb
noncomputable def kR (n : Nat) : Nat := if n = 0 then 1 else n
noncomputable def SGrow (S : Fn) : Prop := ∀ σ K, σ.bytes.length <= 50000 -> (∀ σ', Fr σ σ' -> σ'.minalign = σ.minalign -> σ'.head = σ.head -> σ'.bytes = List.replicate (kR σ.bytes.length) 0 ++ σ.bytes -> K .none σ') -> S [.bld] σ K
theorem oQ (k : Nat) (l : List UInt8) : aN (List.replicate (k + l.length) 0) k l = List.replicate k 0 ++ l := by
  unfold aN
  rw [List.take_replicate, List.drop_replicate]
  simp
theorem grow_ok {Γ : Fns} : SGrow (aR Γ fuel eT 1 [] 3) := by
  intro σ K h hK
  refine ⟨rfl, ?_⟩
  refine And.intro (⟨rfl, by (exact Nat.le_trans (by assumption) (Nat.le_add_left _ _))⟩) ?_
  refine ifF ?_ ?_
  . show ((σ.bytes.length : Int) == 2147483648) = false
    rw [beq_eq_false_iff_ne]; lia
  refine And.intro (⟨rfl, by (exact Nat.le_trans (by assumption) (Nat.le_add_left _ _))⟩) ?_
  refine And.intro (⟨by (exact n40 (by lia)), by decide⟩) ?_
  have e : min ((σ.bytes.length : Int) * 2) 2147483648 = (σ.bytes.length : Int) * 2 := by (exact Int.min_eq_left (by lia))
  refine ⟨fun hc => ?_, fun hc => ?_⟩
  . have hc' : ((σ.bytes.length : Int) * 2) = 0 := by rw [<- e]; exact of_decide_eq_true hc
    have h0 : σ.bytes.length = 0 := by (clear e hc; lia)
    refine And.intro (⟨by decide, by decide⟩) ?_
    refine And.intro (⟨rfl, by show σ.bytes.length <= _; (clear h0 hc' hc; lia)⟩) ?_
    refine And.intro (⟨rfl, rfl, ?_, ?_, ?_⟩) ?_
    . show (0 : Int) <= 1 - (σ.bytes.length : Int); (clear e hc; (clear hc'; lia))
    . show (1 : Int) - (σ.bytes.length : Int) + (σ.bytes.length : Int) = (List.replicate 1 (0 : UInt8)).length; rw [List.length_replicate]; (exact Int.sub_add_cancel _ _)
    . show (List.replicate 1 (0 : UInt8)).length <= _; rw [List.length_replicate]; (exact Nat.succ_pos _)
    refine And.intro (rfl) ?_
    refine hK _ ⟨rfl, rfl, rfl, rfl, rfl, rfl, rfl, rfl, rfl, rfl, rfl, rfl, rfl⟩ rfl rfl ?_
    show aN (List.replicate 1 0) ((1 : Int) - (σ.bytes.length : Int)).toNat σ.bytes = _
    have := oQ 1 σ.bytes
    rw [h0] at this ⊢
    exact this
  . have h0 : σ.bytes.length ≠ 0 := by
      intro q
      have := of_decide_eq_false hc
      rw [e, q] at this
      exact this rfl
    refine And.intro (⟨by rw [e]; (clear h0 hc; (exact Int.natCast_nonneg _)), by rw [e]; lia⟩) ?_
    refine And.intro (⟨rfl, by show σ.bytes.length <= _; lia⟩) ?_
    refine And.intro (⟨rfl, rfl, ?_, ?_, ?_⟩) ?_
    . show (0 : Int) <= min ((σ.bytes.length : Int) * 2) 2147483648 - (σ.bytes.length : Int); (clear h0 hc; (rw [e]; lia))
    . show min ((σ.bytes.length : Int) * 2) 2147483648 - (σ.bytes.length : Int) + (σ.bytes.length : Int) = (List.replicate (min ((σ.bytes.length : Int) * 2) 2147483648).toNat (0 : UInt8)).length; rw [List.length_replicate]; lia
    . show (List.replicate (min ((σ.bytes.length : Int) * 2) 2147483648).toNat (0 : UInt8)).length <= _; rw [List.length_replicate]; (exact Int.toNat_le.mpr (by lia))
    refine And.intro (rfl) ?_
    refine hK _ ⟨rfl, rfl, rfl, rfl, rfl, rfl, rfl, rfl, rfl, rfl, rfl, rfl, rfl⟩ rfl rfl ?_
    show aN (List.replicate (min ((σ.bytes.length : Int) * 2) 2147483648).toNat 0) (min ((σ.bytes.length : Int) * 2) 2147483648 - (σ.bytes.length : Int)).toNat σ.bytes = _
    have := oQ σ.bytes.length σ.bytes
    have e1 : (min ((σ.bytes.length : Int) * 2) 2147483648).toNat = σ.bytes.length + σ.bytes.length := by lia
    have e2 : (min ((σ.bytes.length : Int) * 2) 2147483648 - (σ.bytes.length : Int)).toNat = σ.bytes.length := by (clear hc; lia)
    rw [e1, e2, this]; unfold kR; rw [if_neg h0]
noncomputable def Pw (n : Nat) : Prop := n = 1 \/ n = 2 \/ n = 4 \/ n = 8 \/ n = 16
theorem Pw.pos {n : Nat} (h : Pw n) : 0 < n /\ n <= 16 := by rcases h with h | h | h | h | h <;> (exact ⟨by (rw [h]; decide), by lia⟩)
theorem mask_eq {size : Nat} (h : Pw size) (len more : Nat) : Builtin.bitAnd (Builtin.bitNot ((len : Int) + more) + 1) ((size : Int) - 1) = (padN len size more : Nat) := by
  have e : Builtin.bitNot ((len : Int) + more) + 1 = -((len + more : Nat) : Int) := by unfold Builtin.bitNot; (exact Int.sub_add_cancel _ _)
  rw [e]
  refine Eq.trans ?_ (neg_mod h.pos.1)
  generalize -((len + more : Nat) : Int) = x
  rcases h with h | h | h | h | h <;> subst h
  . exact (bitAnd_zero x).trans (Int.emod_one x).symm
  . exact bitAnd_m1 x
  . exact bitAnd_m2 x
  . exact bitAnd_m3 x
  . exact bitAnd_m4 x
theorem padN_lt {len size more : Nat} (h : 0 < size) : padN len size more < size := Nat.mod_lt _ h
noncomputable def loopB : List IS := [.asg 7 (.loc 4), .expr (.meth 4 (.loc 0) []), .asg 4 (.bif .len [(.slot .bytes (.loc 0))]), .aug 3 .add (.bin .sub (.loc 4) (.loc 7))]
theorem growBy_le (n : Nat) : kR n <= n + 1 /\ 0 < kR n := by unfold kR; split <;> lia
theorem prep_loop {Γ : Fns} (hg : SGrow (Γ 385)) (n : Nat) (need : Nat) (aH aW aG : AV) (out : List UInt8) (Kc : Fl -> List AV -> St -> Prop) (hl : out.length + need <= 20000) : ∀ (m : Nat) (sp : Nat) (σ : St) (x : AV) (front : List UInt8), need - sp <= m -> σ.bytes = front ++ out -> front.length = sp -> sp + out.length <= 100000 ->
    (∀ σ' x' sp' (front' : List UInt8), Fr σ σ' -> σ'.minalign = σ.minalign -> need <= sp' -> sp <= sp' -> σ'.bytes = front' ++ out -> front'.length = sp' -> sp' + out.length <= 100000 -> Kc .next [.bld, aH, aW, .int sp', .int σ'.bytes.length, aG, .int need, x'] σ') ->
    gD (wp Γ (n + 20)) (.cmp .lt (.loc 3) (.loc 6)) loopB (m + 1) [.bld, aH, aW, .int sp, .int σ.bytes.length, aG, .int need, x] σ Kc := by
  intro m
  induction m with
  | zero =>
    intro sp σ x front hm hb hf hlim hK
    conv => whnf
    refine ⟨fun hc => absurd (of_decide_eq_true hc) (by (clear hc; lia)), fun hc => ?_⟩
    exact hK σ x sp front (Fr.refl σ) rfl (by lia) (Nat.le_refl _) hb hf hlim
  | succ m ih =>
    intro sp σ x front hm hb hf hlim hK
    have hlen : σ.bytes.length = sp + out.length := by rw [hb, List.length_append, hf]
    refine And.intro (fun hc => ?_) (fun hc => ?_)
    . have hc := of_decide_eq_true hc
      refine hg _ _ (by (rw [hlen]; lia)) fun σ' F hma hh hby => ?_
      have hl' : σ'.bytes.length = kR σ.bytes.length + σ.bytes.length := by rw [hby, List.length_append, List.length_replicate]
      have hgb : kR σ.bytes.length <= σ.bytes.length + 1 /\ 0 < kR σ.bytes.length := growBy_le σ.bytes.length
      refine ⟨⟨rfl, by (have q1 := hgb.1; clear hgb; (clear hl; lia))⟩, ?_⟩
      conv => whnf
      have e1 : (sp : Int) + ((σ'.bytes.length : Int) - (σ.bytes.length : Int)) = ((sp + kR σ.bytes.length : Nat) : Int) := by (clear hlen; lia)
      show gD (wp Γ (n + 20)) (.cmp .lt (.loc 3) (.loc 6)) loopB (m + 1) [.bld, aH, aW, .int ((sp : Int) + ((σ'.bytes.length : Int) - (σ.bytes.length : Int))), .int σ'.bytes.length, aG, .int need, .int σ.bytes.length] σ' Kc
      rw [e1]
      refine ih _ σ' _ (List.replicate (kR σ.bytes.length) 0 ++ front) (by rw [Nat.sub_add_eq]; exact Nat.sub_le_of_le_add (Nat.le_trans hm (Nat.add_le_add_left hgb.2 m))) (by rw [hby, hb, List.append_assoc]) (by rw [List.length_append, List.length_replicate, hf]; lia) (by (have q1 := hgb.1; clear hgb; lia)) ?_
      exact fun A'' x' sp' front' F' hma' h1 h1' h2 h3 h4 => hK A'' x' sp' front' (F.trans F') (hma'.trans hma) h1 (by (clear h1; lia)) h2 h3 h4
    . have hc := of_decide_eq_false hc
      exact hK σ x sp front (Fr.refl σ) rfl (by lia) (Nat.le_refl _) hb hf hlim
noncomputable def SPrep (S : Fn) : Prop := ∀ σ K sp out (size more : Nat), Ok σ sp out -> Pw size -> out.length + more <= 19000 -> (∀ σ' sp', Fr σ σ' -> σ'.minalign = max σ.minalign size -> size + more <= sp' -> sp <= sp' + padN out.length size more -> Ok σ' sp' (List.replicate (padN out.length size more) 0 ++ out) -> K .none σ') -> S [.bld, .int size, .int more] σ K
theorem bC {Γ : Fns} {n : Nat} {x : IS} {xs : List IS} {fr : List AV} {σ : St} {K : Fl -> List AV -> St -> Prop} (Mid : List AV -> St -> Prop) (h : ∀ R : Fl -> List AV -> St -> Prop, (∀ fr σ, Mid fr σ -> R .next fr σ) -> (∀ v fr σ, K (.ret v) fr σ -> R (.ret v) fr σ) -> wpNextS1 (wp Γ n) x fr σ R)
    (rest : ∀ fr σ, Mid fr σ -> (wp Γ n).s xs fr σ K) : (wp Γ (n + 1)).s (x :: xs) fr σ K := h _ rest fun _ _ _ q => q
theorem Fr.setHead (σ : St) (h : Int) : Fr σ (σ.uHead h) := ⟨rfl, rfl, rfl, rfl, rfl, rfl, rfl, rfl, rfl, rfl, rfl, rfl, rfl⟩
theorem Fr.setMin (σ : St) (h : Int) : Fr σ (σ.uMinalign h) := ⟨rfl, rfl, rfl, rfl, rfl, rfl, rfl, rfl, rfl, rfl, rfl, rfl, rfl⟩
theorem prep_ok {Γ : Fns} (hg : SGrow (Γ 385)) (hp : SPad (Γ 406)) : SPrep (aR Γ fuel ir_Prep 3 [] 5) := by
  intro σ K sp out size more h hs hl hK
  have a := h.len; have b := h.head; have d := h.lim
  have hs' := hs.pos
  refine ⟨rfl, ?_⟩
  refine bC (fun fr AG => fr = [.bld, .int size, .int more, .unb, .unb, .unb, .unb, .unb] /\ Fr σ AG /\ AG.bytes = σ.bytes /\ AG.head = σ.head /\ AG.minalign = max σ.minalign size) ?_ ?_
  . intro R hR _
    refine And.intro (fun hc => ?_) (fun hc => ?_)
    . have hc := of_decide_eq_true hc
      refine hR _ _ ⟨rfl, Fr.setMin _ _, rfl, rfl, ?_⟩
      show (size : Int) = _; (exact (Int.max_eq_right (by exact Int.le_of_lt (by assumption))).symm)
    . have hc := of_decide_eq_false hc
      exact hR _ _ ⟨rfl, Fr.refl σ, rfl, rfl, by lia⟩
  . rintro fr AG ⟨rfl, FG, hbG, hhG, hmG⟩
    have aH : AG.bytes.length = sp + out.length := by rw [hbG, a]
    refine ⟨⟨rfl, by (rw [aH]; lia)⟩, ?_⟩
    have hal : Builtin.bitAnd (Builtin.bitNot ((AG.bytes.length : Int) - AG.head + more) + 1) ((size : Int) - 1) = (padN out.length size more : Nat) := by
      rw [<- mask_eq hs, aH, hhG, b]
      congr 3; lia
    have hpl := padN_lt (len := out.length) (more := more) hs'.1
    refine bcn fun nG => ?_; obtain ⟨front, f1, f2, f3, f4⟩ := h
    refine nG ?_; refine ⟨padN out.length size more + size + more - sp + 1, ?_⟩
    show gD (wp Γ _) (.cmp .lt (.loc 3) (.loc 6)) loopB _ [.bld, .int size, .int more, .int AG.head, .int AG.bytes.length, .int (Builtin.bitAnd (Builtin.bitNot ((AG.bytes.length : Int) - AG.head + more) + 1) ((size : Int) - 1)), .int (Builtin.bitAnd (Builtin.bitNot ((AG.bytes.length : Int) - AG.head + more) + 1) ((size : Int) - 1) + size + more), .unb] AG _
    have en : ((padN out.length size more : Nat) : Int) + size + more = ((padN out.length size more + size + more : Nat) : Int) := by rfl
    rw [hal, en, hhG, b]
    refine prep_loop hg _ _ _ _ _ out _ (by (clear en; (have q1 := hs'.2; clear hs'; lia))) _ sp AG _ front (Nat.le_refl _) (hbG.trans f1) f2 f4 ?_
    intro σ' x' sp' front' F' hma' h1 h1' h2 h3 h4
    refine hp _ _ sp' out (padN out.length size more) ⟨front', h2, h3, rfl, h4⟩ (by (clear hs' hpl; lia)) (by (have q1 := hs'.2; clear hs'; lia)) ?_
    intro A'' F'' hma'' h5
    refine hK A'' (sp' - padN out.length size more) (FG.trans (F'.trans (Fr.trans (Fr.setHead σ' _) F''))) ?_ (by (clear hs'; (exact Nat.le_sub_of_add_le (by lia)))) (by (clear hs' hpl; (exact le_sub_add (by assumption)))) h5
    rw [hma'', <- hmG, <- hma']
end Fb
namespace Fb
noncomputable def packL : List Addr := [70, 84, 98, 112, 126, 140, 154, 168, 182, 220]
theorem aY {c : Addr} {v : AV} {raw : List UInt8} (h : encV c v = some raw) : (∃ i, v = .int i) \/ ∃ b, v = .bool b := by
  unfold encV at h
  split at h
  . exact .inl ⟨_, rfl⟩
  . exact .inr ⟨_, rfl⟩
  . exact nn h
theorem nL {c : Addr} (h : c ∈ packL) : c = 70 \/ c = 84 \/ c = 98 \/ c = 112 \/ c = 126 \/ c = 140 \/ c = 154 \/ c = 168 \/ c = 182 \/ c = 220 := by
  simpa only [packL, List.mem_cons, List.not_mem_nil, or_false] using h
theorem width_pw {c : Addr} (h : c ∈ packL) : Pw (bD c) := by
  rcases nL h with h | h | h | h | h | h | h | h | h | h <;> subst h <;> simp [bD, fl, Pw]
theorem bw_eq {c : Addr} (h : c ∈ packL) : cI c .bytewidth = .int (bD c : Nat) := by
  rcases nL h with h | h | h | h | h | h | h | h | h | h <;> subst h <;> rfl
theorem packs_of {c : Addr} (h : c ∈ packL) : packs c = true := by
  rcases nL h with h | h | h | h | h | h | h | h | h | h <;> subst h <;> rfl
noncomputable abbrev zs (n : Nat) : List UInt8 := List.replicate n 0
noncomputable def al (size more : Nat) (out : List UInt8) : List UInt8 := zs (padN out.length size more) ++ out
theorem kV (size more : Nat) (out : List UInt8) : (al size more out).length = padN out.length size more + out.length := by
  unfold al; rw [List.length_append, List.length_replicate]
theorem oM {size : Nat} {o : List UInt8} (e : o.length % size = 0) : al size 0 o = o := by
  unfold al; rw [oE e]; rfl
theorem al4_mod (o : List UInt8) : (al 4 0 o).length % 4 = 0 := by rw [kV, Nat.add_comm]; exact pad_mod (s := 4) (by decide)
theorem bR {size more : Nat} {out : List UInt8} (h : Pw size) : (al size more out).length <= out.length + 15 /\ out.length <= (al size more out).length := by
  have := padN_lt (len := out.length) (more := more) h.pos.1
  have := h.pos.2
  rw [kV]; lia
noncomputable abbrev Laid2 (σ : St) (sp : Nat) (out : List UInt8) (size : Nat) (raw : List UInt8) (v : AV) (K : AV -> St -> Prop) : Prop := ∀ σ' sp', Fr σ σ' -> σ'.minalign = max σ.minalign (size : Int) -> sp + out.length <= sp' + (raw ++ al size 0 out).length -> Ok σ' sp' (raw ++ al size 0 out) -> K v σ'
noncomputable def SPrepend (S : Fn) : Prop := ∀ c v raw σ K sp out, encV c v = some raw -> c ∈ packL -> Ok σ sp out -> out.length <= 18000 -> Laid2 σ sp out (bD c) raw .none K -> S [.bld, .cst (.ref c), v] σ K
theorem prepend_ok {Γ : Fns} (hp : SPrep (Γ 413)) (hl : SPlace (Γ 704)) : SPrepend (aR Γ fuel pE 3 [] 0) := by
  intro c v raw σ K sp out hv hc h ho hK
  have hw := width_pw hc
  have hlen := encV_len hv (packs_of hc)
  refine ⟨rfl, ?_⟩
  have key : ∀ (K' : AV -> St -> Prop), (∀ σ, K .none σ -> K' .none σ) -> ∀ AG spG, Fr σ AG -> AG.minalign = max σ.minalign ((bD c : Nat) : Int) -> bD c + 0 <= spG -> sp <= spG + padN out.length (bD c) 0 -> Ok AG spG (al (bD c) 0 out) -> Γ 704 [.bld, v, .cst (.ref c)] AG K' := by
    intro K' hK' AG spG FG mG rG cG oG
    refine hl c v raw AG _ spG _ hv (packs_of hc) oG (by (rw [hlen]; lia)) ?_
    intro σ' F' m' o'
    refine hK' _ (hK σ' _ (FG.trans F') (m'.trans mG) ?_ o')
    rw [List.length_append, kV]; lia
  rcases aY hv with ⟨i, rfl⟩ | ⟨b, rfl⟩
  all_goals
    conv => whnf
    rw [bw_eq hc]
    refine hp σ _ sp out (bD c) 0 h hw (by lia) ?_
    intro AG spG FG mG rG cG oG
    refine key _ ?_ AG spG FG mG rG cG oG
    exact fun _ q => q
noncomputable def SPreX (c : Addr) (S : Fn) : Prop := ∀ v raw σ K sp out, encV c v = some raw -> Ok σ sp out -> out.length <= 18000 -> Laid2 σ sp out (bD c) raw .none K -> S [.bld, v] σ K
theorem preBool_ok {Γ : Fns} (hp : SPrepend (Γ 522)) : SPreX 70 (aR Γ fuel jL 2 [] 0) := by
  intro v raw σ K sp out hv h ho hK
  refine ⟨rfl, ?_⟩
  rcases aY hv with ⟨i, rfl⟩ | ⟨b, rfl⟩ <;> exact hp _ _ raw σ _ sp out hv (by decide) h ho hK
theorem preByte_ok {Γ : Fns} (hp : SPrepend (Γ 522)) : SPreX 84 (aR Γ fuel iV 2 [] 0) := by
  intro v raw σ K sp out hv h ho hK
  refine ⟨rfl, ?_⟩
  rcases aY hv with ⟨i, rfl⟩ | ⟨b, rfl⟩ <;> exact hp _ _ raw σ _ sp out hv (by decide) h ho hK
theorem preU16_ok {Γ : Fns} (hp : SPrepend (Γ 522)) : SPreX 98 (aR Γ fuel gB 2 [] 0) := by
  intro v raw σ K sp out hv h ho hK
  refine ⟨rfl, ?_⟩
  rcases aY hv with ⟨i, rfl⟩ | ⟨b, rfl⟩ <;> exact hp _ _ raw σ _ sp out hv (by decide) h ho hK
theorem preU32_ok {Γ : Fns} (hp : SPrepend (Γ 522)) : SPreX 112 (aR Γ fuel fR 2 [] 0) := by
  intro v raw σ K sp out hv h ho hK
  refine ⟨rfl, ?_⟩
  rcases aY hv with ⟨i, rfl⟩ | ⟨b, rfl⟩ <;> exact hp _ _ raw σ _ sp out hv (by decide) h ho hK
theorem preU64_ok {Γ : Fns} (hp : SPrepend (Γ 522)) : SPreX 126 (aR Γ fuel fT 2 [] 0) := by
  intro v raw σ K sp out hv h ho hK
  refine ⟨rfl, ?_⟩
  rcases aY hv with ⟨i, rfl⟩ | ⟨b, rfl⟩ <;> exact hp _ _ raw σ _ sp out hv (by decide) h ho hK
theorem preI8_ok {Γ : Fns} (hp : SPrepend (Γ 522)) : SPreX 140 (aR Γ fuel iS 2 [] 0) := by
  intro v raw σ K sp out hv h ho hK
  refine ⟨rfl, ?_⟩
  rcases aY hv with ⟨i, rfl⟩ | ⟨b, rfl⟩ <;> exact hp _ _ raw σ _ sp out hv (by decide) h ho hK
theorem preI16_ok {Γ : Fns} (hp : SPrepend (Γ 522)) : SPreX 154 (aR Γ fuel gO 2 [] 0) := by
  intro v raw σ K sp out hv h ho hK
  refine ⟨rfl, ?_⟩
  rcases aY hv with ⟨i, rfl⟩ | ⟨b, rfl⟩ <;> exact hp _ _ raw σ _ sp out hv (by decide) h ho hK
theorem preI32_ok {Γ : Fns} (hp : SPrepend (Γ 522)) : SPreX 168 (aR Γ fuel gP 2 [] 0) := by
  intro v raw σ K sp out hv h ho hK
  refine ⟨rfl, ?_⟩
  rcases aY hv with ⟨i, rfl⟩ | ⟨b, rfl⟩ <;> exact hp _ _ raw σ _ sp out hv (by decide) h ho hK
theorem preI64_ok {Γ : Fns} (hp : SPrepend (Γ 522)) : SPreX 182 (aR Γ fuel gQ 2 [] 0) := by
  intro v raw σ K sp out hv h ho hK
  refine ⟨rfl, ?_⟩
  rcases aY hv with ⟨i, rfl⟩ | ⟨b, rfl⟩ <;> exact hp _ _ raw σ _ sp out hv (by decide) h ho hK
theorem preV_ok {Γ : Fns} (hp : SPrepend (Γ 522)) : SPreX 220 (aR Γ fuel eK 2 [] 0) := by
  intro v raw σ K sp out hv h ho hK
  refine ⟨rfl, ?_⟩
  rcases aY hv with ⟨i, rfl⟩ | ⟨b, rfl⟩ <;> exact hp _ _ raw σ _ sp out hv (by decide) h ho hK
noncomputable def SPlaceW (lo hi : Int) (S : Fn) : Prop := ∀ i σ K sp out, lo <= i -> i <= hi -> Ok σ sp out -> 4 <= sp -> Laid1 σ sp 4 (aF 4 i ++ out) K -> S [.bld, .int i] σ K
theorem placeS_ok {Γ : Fns} (he : SEnf (Γ 229)) (hw : SWrite (Γ 236)) : SPlaceW (-2147483648) 2147483647 (aR Γ fuel fX 2 [] 1) := by
  intro i σ K sp out h1 h2 h hs hK
  have a := h.len; have b := h.head; have d := h.lim
  refine ⟨rfl, ?_⟩
  refine he.1 _ _ _ _ _ _ _ rfl h1 h2 ?_
  refine hw.1 59 4 (-2147483648) 2147483647 i (σ.head - 4) (σ.uHead (σ.head - 4)) _ rfl h1 h2 ?_ ?_ ?_ ?_
  . show 0 <= σ.head - _; (rw [b]; lia)
  . show σ.head - _ + _ <= (σ.bytes.length : Int); lia
  . show σ.bytes.length <= _; (rw [a]; lia)
  refine hK _ ⟨rfl, rfl, rfl, rfl, rfl, rfl, rfl, rfl, rfl, rfl, rfl, rfl, rfl⟩ rfl ?_
  exact h.put (σ' := ((σ.uBytes (aN σ.bytes (σ.head - 4).toNat (aF 4 i))).uHead (σ.head - 4))) (raw := aF 4 i) (by rw [aE]; exact hs) (by rw [aE, b]; rfl) rfl rfl
theorem placeU_ok {Γ : Fns} (he : SEnf (Γ 229)) (hw : SWrite (Γ 236)) : SPlaceW 0 4294967295 (aR Γ fuel fN 2 [] 1) := by
  intro i σ K sp out h1 h2 h hs hK
  have a := h.len; have b := h.head; have d := h.lim
  refine ⟨rfl, ?_⟩
  refine he.1 _ _ _ _ _ _ _ rfl h1 h2 ?_
  refine hw.1 55 4 0 4294967295 i (σ.head - 4) (σ.uHead (σ.head - 4)) _ rfl h1 h2 ?_ ?_ ?_ ?_
  . show 0 <= σ.head - _; lia
  . show σ.head - _ + _ <= (σ.bytes.length : Int); lia
  . show σ.bytes.length <= _; lia
  refine hK _ ⟨rfl, rfl, rfl, rfl, rfl, rfl, rfl, rfl, rfl, rfl, rfl, rfl, rfl⟩ rfl ?_
  exact h.put (σ' := ((σ.uBytes (aN σ.bytes (σ.head - 4).toNat (aF 4 i))).uHead (σ.head - 4))) (raw := aF 4 i) (by rw [aE]; exact hs) (by rw [aE, b]; rfl) rfl rfl
noncomputable def bM (i : Int) (out : List UInt8) : List UInt8 := aF 4 ((out.length : Int) - i + 4)
noncomputable def SWay (S : Fn) : Prop := ∀ (i : Int) σ K sp out, 0 <= i -> i <= out.length -> Ok σ sp out -> out.length <= 18000 -> Laid2 σ sp out 4 (bM i (al 4 0 out)) .none K -> S [.bld, .int i] σ K
theorem wayS_ok {Γ : Fns} (hp : SPrep (Γ 413)) (hf : SOffset (Γ 399)) (hl : SPlaceW (-2147483648) 2147483647 (Γ 718)) : SWay (aR Γ fuel bZ 2 [] 2) := by
  intro i σ K sp out h1 h2 h ho hK
  refine ⟨rfl, ?_⟩
  refine hp σ _ sp out 4 0 h (by unfold Pw; decide) (by lia) ?_
  intro AG spG FG mG rG cG oG
  have hal := bR (size := 4) (more := 0) (out := out) (by unfold Pw; decide)
  refine hf AG _ spG _ oG ?_
  refine ifF ?_ ?_
  . show (!decide (i <= ((al 4 0 out).length : Int))) = false
    have : i <= ((al 4 0 out).length : Int) := by (exact Int.le_trans (by assumption) (by lia))
    simpa using this
  refine hf AG _ spG _ oG ?_
  refine hl _ AG _ spG (al 4 0 out) ?_ ?_ oG (by assumption) ?_
  . show _ <= ((al 4 0 out).length : Int) - i + 4; lia
  . show ((al 4 0 out).length : Int) - i + 4 <= _; (have q1 := hal.1; clear hal; lia)
  intro σ' F' m' o'
  refine hK σ' _ (FG.trans F') (m'.trans mG) ?_ o'
  rw [List.length_append, kV]; unfold bM; rw [aE]; lia
theorem wayU_ok {Γ : Fns} (hp : SPrep (Γ 413)) (hf : SOffset (Γ 399)) (hl : SPlaceW 0 4294967295 (Γ 725)) : SWay (aR Γ fuel bY 2 [] 2) := by
  intro i σ K sp out h1 h2 h ho hK
  refine ⟨rfl, ?_⟩
  refine hp σ _ sp out 4 0 h (by unfold Pw; lia) (by lia) ?_
  intro AG spG FG mG rG cG oG
  have hal := bR (size := 4) (more := 0) (out := out) (by unfold Pw; lia)
  refine hf AG _ spG _ oG ?_
  refine ifF ?_ ?_
  . show (!decide (i <= ((al 4 0 out).length : Int))) = false
    have : i <= ((al 4 0 out).length : Int) := by lia
    simpa using this
  refine hf AG _ spG _ oG ?_
  refine hl _ AG _ spG (al 4 0 out) ?_ ?_ oG (by assumption) ?_
  . show _ <= ((al 4 0 out).length : Int) - i + 4; lia
  . show ((al 4 0 out).length : Int) - i + 4 <= _; (have q1 := hal.1; clear hal; lia)
  intro σ' F' m' o'
  refine hK σ' _ (FG.trans F') (m'.trans mG) ?_ o'
  rw [List.length_append, kV]; unfold bM; rw [aE]; lia
end Fb
namespace Fb
theorem pw4 : Pw 4 := by unfold Pw; decide
theorem lW (size more : Nat) (out : List UInt8) : List.replicate (padN out.length size more) 0 ++ out = al size more out := rfl
noncomputable def SStart (S : Fn) : Prop := ∀ σ K sp out (w n size : Nat), Ok σ sp out -> σ.nested = false -> Pw size -> w <= 8 -> n <= 100 -> out.length <= 15000 ->
  (∀ σ' sp', Fr ((σ.uNested true).uVne (some (some n))) σ' -> σ'.minalign = max (max σ.minalign (4 : Nat)) size -> size + w * n <= sp' -> 4 + w * n + (al 4 (w * n) out).length <= sp' + (al size (w * n) (al 4 (w * n) out)).length -> Ok σ' sp' (al size (w * n) (al 4 (w * n) out)) -> K (.int (al size (w * n) (al 4 (w * n) out)).length) σ') -> S [.bld, .int w, .int n, .int size] σ K
theorem start_ok {Γ : Fns} (hn : SNest false (Γ 477)) (hp : SPrep (Γ 413)) (hf : SOffset (Γ 399)) : SStart (aR Γ fuel jN 4 [] 0) := by
  intro σ K sp out w n size h hne hs hw hn' ho hK
  have hwn : w * n <= 8 * 100 := Nat.mul_le_mul hw hn'
  have hal := bR (size := 4) (more := w * n) (out := out) pw4
  have hal2 := bR (size := size) (more := w * n) (out := al 4 (w * n) out) hs
  refine ⟨rfl, ?_⟩
  refine hn σ _ hne ?_
  refine And.intro (⟨by (exact Nat.lt_of_le_of_lt (by assumption) (by decide)), by (exact Nat.lt_of_le_of_lt (by assumption) (by decide))⟩) ?_
  refine hp ((σ.uNested true).uVne (some (some n))) _ sp out 4 (w * n) (h.of rfl rfl) pw4 (by lia) ?_
  intro AG spG FG mG rG cG oG
  refine And.intro (⟨by lia, by (exact Nat.lt_of_le_of_lt (by assumption) (by decide))⟩) ?_
  refine hp AG _ spG _ size (w * n) oG hs (by rw [lW]; (have q1 := hal.1; clear hal; lia)) ?_
  intro AH spH FH mH rH cW oH
  refine hf AH _ spH _ oH ?_
  refine hK AH spH (FG.trans FH) (by rw [mH, mG]) rH ?_ oH
  rw [kV size, <- lW 4] at *; (clear hK; (generalize padN (List.replicate (padN out.length 4 (w * n)) 0 ++ out).length size (w * n) = z0 at cW ⊢; lia))
noncomputable def SEnd (S : Fn) : Prop := ∀ σ K sp out (n : Nat), Ok σ sp out -> σ.nested = true -> σ.vne = some (some (n : Int)) -> n <= 4294967295 -> 4 <= sp ->
  (∀ σ', Fr ((σ.uNested false).uVne (some none)) σ' -> σ'.minalign = σ.minalign -> Ok σ' (sp - 4) (aF 4 n ++ out) -> K (.int ((aF 4 n ++ out).length : Nat)) σ') -> S [.bld] σ K
theorem end_ok {Γ : Fns} (hn : SNest true (Γ 470)) (hl : SPlaceW 0 4294967295 (Γ 725)) (hf : SOffset (Γ 399)) : SEnd (aR Γ fuel mI 1 [.none] 0) := by
  intro σ K sp out n h hne hv hn' hs hK
  refine ⟨rfl, ?_⟩
  refine hn σ _ hne ?_
  refine And.intro (rfl) ?_
  refine ifF rfl ?_
  conv => whnf
  have e : (σ.uNested false).slot .vne = .int n := by show (match σ.vne with | none => AV.unb | some o => AV.ofOpt o) = _; rw [hv]; rfl
  rw [e]
  refine hl n (σ.uNested false) _ sp out (by exact Int.natCast_nonneg _) (by exact Int.ofNat_le.mpr (by assumption)) (h.of rfl rfl) hs ?_
  intro σ' F m o
  refine hf _ _ (sp - 4) (aF 4 n ++ out) (o.of rfl rfl) ?_
  refine hK _ ⟨F.oend, F.nested, rfl, F.fin, F.cv, F.vts, F.tlv, F.tl, F.pile, F.pmax, F.script, F.bi, F.cvv⟩ m (o.of rfl rfl)
noncomputable def SCreate (z : List UInt8) (S : Fn) : Prop := ∀ σ K sp out (l : List UInt8), Ok σ sp out -> σ.nested = false -> l.length <= 100 -> out.length <= 15000 ->
  (∀ σ' sp', Fr ((σ.uNested false).uVne (some none)) σ' -> σ'.minalign = max σ.minalign (4 : Nat) -> Ok σ' sp' (aF 4 l.length ++ (l ++ (z ++ al 4 (l.length + z.length) out))) -> K (.int (aF 4 l.length ++ (l ++ (z ++ al 4 (l.length + z.length) out))).length) σ') -> S [.bld, .bytes l] σ K
theorem octets_ok {Γ : Fns} (hn : SNest false (Γ 477)) (hp : SPrep (Γ 413)) (he : SEnd (Γ 442)) : SCreate [] (aR Γ fuel dV 2 [] 2) := by
  intro σ K sp out l h hne hl ho hK
  have hal := bR (size := 4) (more := l.length) (out := out) pw4
  refine ⟨rfl, ?_⟩
  refine hn σ _ hne ?_
  refine And.intro (rfl) ?_
  refine ifF rfl ?_
  refine And.intro (by exact Nat.le_trans (by assumption) (Nat.le_add_left _ _)) ?_
  refine And.intro (⟨by (generalize l.length = z0 at hl ⊢; lia), by decide⟩) ?_
  have e : (l.length : Int) * 1 = ((l.length : Nat) : Int) := by simp
  rw [e]
  refine hp (σ.uNested true) _ sp out 4 l.length (h.of rfl rfl) pw4 (by lia) ?_
  intro AG spG FG mG rG cG oG
  rw [lW] at oG
  have a := oG.len; have b := oG.head; have d := oG.lim
  refine And.intro (⟨rfl, ?_, rfl, ?_, ?_⟩) ?_
  . show (0 : Int) <= AG.head - l.length; (rw [b]; lia)
  . show AG.head - l.length + l.length <= (AG.bytes.length : Int); lia
  . show AG.bytes.length <= 1000000; (rw [a]; lia)
  have oH : Ok ((AG.uHead (AG.head - l.length)).uBytes (aN AG.bytes (AG.head - l.length).toNat l)) (spG - l.length) (l ++ al 4 l.length out) := oG.put (by lia) (by rw [b]) rfl rfl
  refine he (((AG.uHead (AG.head - l.length)).uBytes (aN AG.bytes (AG.head - l.length).toNat l)).uVne (some (some (l.length : Int)))) _ (spG - l.length) (l ++ al 4 l.length out) l.length (oH.of rfl rfl) FG.nested rfl (by exact Nat.le_trans (by assumption) (Nat.le_add_left _ _)) (by exact Nat.le_sub_of_add_le (by assumption)) ?_
  intro σ' F m o
  refine hK σ' _ ?_ (m.trans mG) o
  exact ⟨F.oend.trans FG.oend, F.nested, F.vne, F.fin.trans FG.fin, F.cv.trans FG.cv, F.vts.trans FG.vts, F.tlv.trans FG.tlv, F.tl.trans FG.tl, F.pile.trans FG.pile, F.pmax.trans FG.pmax, F.script.trans FG.script, F.bi.trans FG.bi, F.cvv.trans FG.cvv⟩
theorem text_ok {Γ : Fns} (hn : SNest false (Γ 477)) (hp : SPrep (Γ 413)) (hpl : SPlace (Γ 704)) (he : SEnd (Γ 442)) : SCreate [0] (aR Γ fuel gT 2 [] 3) := by
  intro σ K sp out l h hne hl ho hK
  have hal := bR (size := 4) (more := l.length + 1) (out := out) pw4
  refine ⟨rfl, ?_⟩
  refine hn σ _ hne ?_
  refine And.intro (rfl) ?_
  refine ifF rfl ?_
  refine And.intro (rfl) ?_
  refine ifT rfl ?_
  refine And.intro (by exact Nat.le_trans (by assumption) (Nat.le_add_left _ _)) ?_
  refine And.intro (⟨by (exact n40 (by exact Nat.lt_of_le_of_lt (by assumption) (by decide))), by decide⟩) ?_
  have e : ((l.length : Int) + 1) * 1 = ((l.length + 1 : Nat) : Int) := by simp
  rw [e]
  refine hp (σ.uNested true) _ sp out 4 (l.length + 1) (h.of rfl rfl) pw4 (by lia) ?_
  intro AD spD FD mD rD cD oD
  rw [lW] at oD
  refine hpl 84 (.int 0) [0] AD _ spD _ rfl rfl oD (by simp; lia) ?_
  intro AG FG mG oG
  have a := oG.len; have b := oG.head; have d := oG.lim
  simp only [List.length_singleton] at a b d
  refine And.intro (⟨rfl, ?_, rfl, ?_, ?_⟩) ?_
  . show (0 : Int) <= AG.head - l.length; lia
  . show AG.head - l.length + l.length <= (AG.bytes.length : Int); lia
  . show AG.bytes.length <= 1000000; (generalize AG.bytes.length = z0 at a ⊢; generalize ([0] ++ al 4 (l.length + 1) out).length = z1 at a d; (rw [a]; lia))
  have oH : Ok ((AG.uHead (AG.head - l.length)).uBytes (aN AG.bytes (AG.head - l.length).toNat l)) (spD - 1 - l.length) (l ++ ([0] ++ al 4 (l.length + 1) out)) := oG.put (by simp only [List.length_singleton]; (exact Nat.le_sub_of_add_le (by lia))) (by rw [b]; rfl) rfl rfl
  refine he (((AG.uHead (AG.head - l.length)).uBytes (aN AG.bytes (AG.head - l.length).toNat l)).uVne (some (some (l.length : Int)))) _ (spD - 1 - l.length) (l ++ ([0] ++ al 4 (l.length + 1) out)) l.length (oH.of rfl rfl) (FG.nested.trans FD.nested) rfl (by lia) (by lia) ?_
  intro σ' F m o
  refine hK σ' _ ?_ (m.trans (mG.trans mD)) o
  exact ⟨F.oend.trans (FG.oend.trans FD.oend), F.nested, F.vne, F.fin.trans (FG.fin.trans FD.fin), F.cv.trans (FG.cv.trans FD.cv), F.vts.trans (FG.vts.trans FD.vts), F.tlv.trans (FG.tlv.trans FD.tlv), F.tl.trans (FG.tl.trans FD.tl), F.pile.trans (FG.pile.trans FD.pile), F.pmax.trans (FG.pmax.trans FD.pmax), F.script.trans (FG.script.trans FD.script), F.bi.trans (FG.bi.trans FD.bi), F.cvv.trans (FG.cvv.trans FD.cvv)⟩
theorem slot_cv {σ : St} {l : List Int} (h : σ.cv = some l) : σ.slot .cv = .cv σ.cvv := by unfold St.slot; rw [h]
noncomputable def SSlot (S : Fn) : Prop := ∀ σ K sp out (k : Nat) (l : List Int), Ok σ sp out -> σ.nested = true -> σ.cv = some l -> k < l.length -> l.length <= 1000 -> K .none (σ.uCv (some (l.set k (out.length : Int)))) -> S [.bld, .int k] σ K
theorem slot_ok {Γ : Fns} (hn : SNest true (Γ 470)) (hf : SOffset (Γ 399)) : SSlot (aR Γ fuel ir_Slot 2 [] 0) := by
  intro σ K sp out k l h hne hc hk hl hK
  refine ⟨rfl, ?_⟩
  refine hn σ _ hne ?_
  refine hf σ _ sp out h ?_
  conv => whnf
  rw [slot_cv hc]
  conv => whnf
  rw [hc]
  refine And.intro (⟨rfl, by lia, by (exact Int.ofNat_lt.mpr (by assumption)), by assumption⟩) ?_
  exact hK
end Fb
namespace Fb
noncomputable def SStartObj (S : Fn) : Prop := ∀ σ K sp out (n : Nat), Ok σ sp out -> σ.nested = false -> n <= 1000 -> K .none ((((σ.uCv (some (List.replicate n 0))).uCvv (σ.cvv + 1)).uOend (some (out.length : Int))).uNested true) -> S [.bld, .int n] σ K
theorem startObj_ok {Γ : Fns} (hn : SNest false (Γ 477)) (hf : SOffset (Γ 399)) : SStartObj (aR Γ fuel iU 2 [] 0) := by
  intro σ K sp out n h hne hn' hK
  refine ⟨rfl, ?_⟩
  refine hn σ _ hne ?_
  refine And.intro (⟨by (exact Int.natCast_nonneg _), by (exact Int.ofNat_le.mpr (by assumption))⟩) ?_
  refine hf _ _ sp out (h.of rfl rfl) ?_
  exact hK
noncomputable def SInline (S : Fn) : Prop := ∀ σ K sp out, Ok σ sp out -> K .none σ -> S [.bld, .int (out.length : Int)] σ K
theorem inline_ok {Γ : Fns} (he : SEnf (Γ 229)) (hf : SOffset (Γ 399)) : SInline (aR Γ fuel cL 2 [] 1) := by
  intro σ K sp out h hK
  have d := h.lim
  refine ⟨rfl, ?_⟩
  refine he.1 208 4 0 4294967295 _ _ _ rfl (by exact Int.natCast_nonneg _) (by lia) ?_
  refine hf _ _ sp out h ?_
  refine ifF ?_ ?_
  . show ((out.length : Int) != (out.length : Int)) = false
    simp
  exact hK
noncomputable def SStructSlot (S : Fn) : Prop := ∀ σ K sp out (k : Nat) (l : List Int), Ok σ sp out -> 0 < out.length -> σ.nested = true -> σ.cv = some l -> k < l.length -> l.length <= 1000 -> K .none (σ.uCv (some (l.set k (out.length : Int)))) -> S [.bld, .int k, .int (out.length : Int), .int 0] σ K
theorem structSlot_ok {Γ : Fns} (he : SEnf (Γ 229)) (hi : SInline (Γ 484)) (hs : SSlot (Γ 491)) : SStructSlot (aR Γ fuel dJ 4 [] 0) := by
  intro σ K sp out k l h h0 hne hc hk hl hK
  refine ⟨rfl, ?_⟩
  refine he.1 208 4 0 4294967295 _ _ _ rfl (by exact Int.natCast_nonneg _) (by exact Int.natCast_nonneg _) ?_
  refine ifT ?_ ?_
  . show ((out.length : Int) != 0) = true
    rw [bne_iff_ne]; lia
  refine hi σ _ sp out h ?_
  exact hs σ _ sp out k l h hne hc hk hl hK
theorem padN_one (n m : Nat) : padN n 1 m = 0 := Nat.mod_one _
theorem al_one (more : Nat) (out : List UInt8) : al 1 more out = out := by unfold al; rw [padN_one]; rfl
noncomputable def SPreSlot (S : Fn) : Prop := ∀ σ K sp out (k : Nat) (l : List Int) (x : Int), Ok σ sp out -> σ.nested = true -> σ.cv = some l -> k < l.length -> l.length <= 1000 -> 0 < x -> x <= 255 -> out.length <= 18000 ->
  (∀ σ' sp', Fr (σ.uCv (some (l.set k ((out.length : Int) + 1)))) σ' -> σ'.minalign = max σ.minalign (1 : Nat) -> Ok σ' sp' (aF 1 x ++ out) -> K .none σ') -> S [.bld, .cst (.ref 84), .int k, .int x, .int 0] σ K
theorem preSlot_ok {Γ : Fns} (he : SEnf (Γ 229)) (hp : SPrepend (Γ 522)) (hs : SSlot (Γ 491)) : SPreSlot (aR Γ fuel dR 5 [] 0) := by
  intro σ K sp out k l x h hne hc hk hl hx hx' ho hK
  refine ⟨rfl, ?_⟩
  refine ifT rfl ?_
  refine he.1 84 1 0 255 _ _ _ rfl (by exact Int.le_of_lt (by assumption)) (by assumption) ?_
  refine ifT rfl ?_
  refine he.1 84 1 0 255 _ _ _ rfl (by lia) (by exact Int.natCast_nonneg _) ?_
  refine ifT ?_ ?_
  . show (x != 0) = true
    rw [bne_iff_ne]; (exact Int.ne_of_gt (by assumption))
  refine ifT rfl ?_
  refine hp 84 (.int x) (aF 1 x) σ _ sp out (by show (if _ then _ else _) = _; rw [if_pos ⟨by lia, by assumption⟩]) (by decide) h ho ?_
  intro AG spG FG mG cG oG
  have e : al (bD 84) 0 out = out := al_one 0 out
  rw [e] at oG
  refine hs AG _ spG _ k l oG (FG.nested.trans hne) (FG.cv.trans hc) hk hl ?_
  refine hK _ spG ⟨FG.oend, FG.nested, FG.vne, FG.fin, ?_, FG.vts, FG.tlv, FG.tl, FG.pile, FG.pmax, FG.script, FG.bi, FG.cvv⟩ mG (oG.of rfl rfl)
  show some (l.set k (((aF 1 x ++ out).length : Nat) : Int)) = some (l.set k ((out.length : Int) + 1))
  rw [List.length_append, aE]
  congr 2; lia
end Fb
namespace Fb
noncomputable def fB : List Int -> List UInt8 -> List UInt8
  | [], o => o
  | x :: xs, o => fB xs (aF 2 x ++ al 2 0 o)
theorem mA : ∀ (a b : List Int) (o : List UInt8), fB (a ++ b) o = fB b (fB a o)
  | [], _, _ => rfl
  | x :: xs, b, o => by show fB (xs ++ b) _ = _; rw [mA xs b]; rfl
theorem pw2 : Pw 2 := by unfold Pw; decide
theorem enc220 {x : Int} (h : 0 <= x) (h' : x <= 65535) : encV 220 (.int x) = some (aF 2 x) := by
  show (if _ then _ else _) = _
  rw [if_pos ⟨h, h'⟩]
noncomputable def forBody : List IS := [.ifs (.cmp .eq (.loc 4) (.lit (.int 0))) [.ifs (.loc 3) [.cont] []] [.asg 4 (.bin .sub (.loc 1) (.loc 4)), .asg 3 (.lit (.bool false))], .expr (.append (.loc 2) (.loc 4))]
theorem vt_for0 {Γ : Fns} (n : Nat) (P : St -> Prop) (there : Int) (a5 a6 a7 a8 a9 a10 a11 : AV) (Kc : Fl -> List AV -> St -> Prop) : ∀ (t : Nat) (σ : St) (e : AV) (acc : List Int), σ.tl = some acc -> acc.length + t <= 1000 -> (∀ l, P (σ.uTl (some l))) ->
    (∀ e', Kc .next [.bld, .int there, .tl σ.tlv, .bool false, e', a5, a6, a7, a8, a9, a10, a11] (σ.uTl (some (acc ++ List.replicate t 0)))) ->
    mE (wp Γ (n + 20)) P 4 forBody (List.replicate t (.int 0)) [.bld, .int there, .tl σ.tlv, .bool false, e, a5, a6, a7, a8, a9, a10, a11] σ Kc
  | 0, σ, e, acc, ht, hl, hP, hK => by
    have := hK e
    rw [List.replicate_zero, List.append_nil, <- ht] at this
    exact this
  | t + 1, σ, e, acc, ht, hl, hP, hK => by
    rw [List.replicate_succ]
    refine ifT rfl ?_
    refine And.intro (rfl) ?_
    refine ifF rfl ?_
    refine And.intro (⟨rfl, by rw [ht]; rfl⟩) ?_
    conv => whnf
    rw [ht]
    refine And.intro (⟨rfl, by lia⟩) ?_
    refine And.intro (hP _) ?_
    refine vt_for0 n P there a5 a6 a7 a8 a9 a10 a11 Kc t (σ.uTl (some (acc ++ [0]))) _ (acc ++ [0]) rfl (by rw [List.length_append, List.length_singleton]; lia) (fun l => hP l) ?_
    intro e'
    have := hK e'
    rw [List.replicate_succ, show acc ++ 0 :: List.replicate t (0 : Int) = (acc ++ [0]) ++ List.replicate t 0 by rw [List.append_assoc]; rfl] at this
    exact this
noncomputable def offs (there inner num : Int) (t : Nat) : List Int := (if num = 0 then [] else [there - num]) ++ (there - inner) :: List.replicate t 0
theorem vt_for {Γ : Fns} (n : Nat) (P : St -> Prop) (there inner num : Int) (a5 a6 a7 a8 a9 a10 a11 : AV) (Kc : Fl -> List AV -> St -> Prop) (t : Nat) (σ : St) (e : AV) (ht : σ.tl = some []) (hl : t <= 900) (hi : inner ≠ 0) (hP : ∀ l, P (σ.uTl (some l)))
    (hK : ∀ e', Kc .next [.bld, .int there, .tl σ.tlv, .bool false, e', a5, a6, a7, a8, a9, a10, a11] (σ.uTl (some (offs there inner num t)))) :
    mE (wp Γ (n + 20)) P 4 forBody (.int num :: .int inner :: List.replicate t (.int 0)) [.bld, .int there, .tl σ.tlv, .bool true, e, a5, a6, a7, a8, a9, a10, a11] σ Kc := by
  have second : ∀ (b : Bool) (e : AV) (acc : List Int) (AG : St), AG = (σ.uTl (some acc)) -> acc.length <= 1 -> acc ++ (there - inner) :: List.replicate t 0 = offs there inner num t ->
      mE (wp Γ (n + 20)) P 4 forBody (.int inner :: List.replicate t (.int 0)) [.bld, .int there, .tl σ.tlv, .bool b, e, a5, a6, a7, a8, a9, a10, a11] AG Kc := by
    rintro b e acc AG rfl ha hacc
    refine ifF ?_ ?_
    . show (inner == 0) = false
      rw [beq_eq_false_iff_ne]; exact hi
    refine And.intro (⟨rfl, rfl⟩) ?_
    refine And.intro (⟨rfl, by (exact Nat.le_trans (by assumption) (Nat.le_add_left _ _))⟩) ?_
    refine And.intro (hP _) ?_
    refine vt_for0 n P there a5 a6 a7 a8 a9 a10 a11 Kc t (σ.uTl (some (acc ++ [there - inner]))) _ (acc ++ [there - inner]) rfl (by rw [List.length_append, List.length_singleton]; lia) (fun l => hP l) ?_
    intro e'
    have := hK e'
    rw [<- hacc, show acc ++ (there - inner) :: List.replicate t (0 : Int) = (acc ++ [there - inner]) ++ List.replicate t 0 by rw [List.append_assoc]; rfl] at this
    exact this
  by_cases hn : num = 0
  . subst hn
    refine ifT rfl ?_
    refine And.intro (rfl) ?_
    refine ifT rfl ?_
    refine ⟨?_, second true _ [] σ (by rw [<- ht]) (by decide) (by unfold offs; rw [if_pos rfl])⟩
    have := hP []
    rw [<- ht] at this; exact this
  . skip
    refine ifF ?_ ?_
    . show (num == 0) = false
      rw [beq_eq_false_iff_ne]; exact hn
    refine And.intro (⟨rfl, by rw [ht]; rfl⟩) ?_
    conv => whnf
    rw [ht]
    refine And.intro (⟨rfl, by decide⟩) ?_
    exact ⟨hP _, second false _ [there - num] _ rfl (by simp) (by unfold offs; rw [if_neg hn])⟩
noncomputable def whTest : IE := .cmp .ge (.loc 7) (.lit (.int 0))
noncomputable def whBody : List IS := [.asg 11 (.lit (.int 0)), .asg 4 (.idx (.slot .cv (.loc 0)) (.loc 7)), .aug 7 .sub (.lit (.int 1)), .ifs (.cmp .eq (.loc 4) (.lit (.int 0))) [.ifs (.loc 3) [.aug 8 .add (.lit (.int 1)), .cont] []] [.asg 11 (.bin .sub (.loc 1) (.loc 4)), .asg 3 (.lit (.bool false))], .expr (.meth 35 (.loc 0) [(.loc 11)])]
theorem vt_wh0 {Γ : Fns} (hp : SPreX 220 (Γ 697)) (n : Nat) (there c : Int) (a2 a5 a6 a9 a10 : AV) (l : List Int) (hl : l.length <= 1000) (Kc : Fl -> List AV -> St -> Prop) : ∀ (t : Nat) (σ : St) (sp : Nat) (o : List UInt8) (e4 e11 : AV), t <= l.length -> (∀ j, j < t -> l.getD j 0 = 0) -> Ok σ sp o -> σ.cv = some l -> 2 <= σ.minalign -> o.length + 20 * t <= 17000 ->
    (∀ σ' sp' e4' e7' e11', Fr σ σ' -> σ'.minalign = σ.minalign -> Ok σ' sp' (fB (List.replicate t 0) o) -> Kc .next [.bld, .int there, a2, .bool false, e4', a5, a6, e7', .int c, a9, a10, e11'] σ') ->
    gD (wp Γ (n + 20)) whTest whBody (t + 1) [.bld, .int there, a2, .bool false, e4, a5, a6, .int ((t : Int) - 1), .int c, a9, a10, e11] σ Kc
  | 0, σ, sp, o, e4, e11, htl, hz, h, hc, hm, ho, hK => by
    refine ifF ?_ ?_
    . rfl
    exact hK σ sp _ _ _ (Fr.refl σ) rfl h
  | t + 1, σ, sp, o, e4, e11, htl, hz, h, hc, hm, ho, hK => by
    have hal := bR (size := 2) (more := 0) (out := o) pw2
    refine ifT ?_ ?_
    . show decide (((t + 1 : Nat) : Int) - 1 >= 0) = true
      exact decide_eq_true (by (clear hK; simp))
    conv => whnf
    rw [slot_cv hc]
    conv => whnf
    rw [hc]
    refine And.intro (⟨rfl, by simp, by lia, by (exact Nat.le_trans (by assumption) (Nat.le_add_left _ _))⟩) ?_
    have e : (((t + 1 : Nat) : Int) - 1).toNat = t := by simp
    rw [e, hz t (by exact Nat.lt_succ_self _)]
    refine ifT rfl ?_
    refine And.intro (rfl) ?_
    refine ifF rfl ?_
    refine hp (.int 0) (aF 2 0) σ _ sp o (enc220 (by exact Int.natCast_nonneg _) (by exact Int.natCast_nonneg _)) h (by lia) ?_
    intro AG spG FG mG cG oG
    have e2 : ((t + 1 : Nat) : Int) - 1 - 1 = (t : Int) - 1 := by simp
    rw [e2]
    have mG' : AG.minalign = σ.minalign := by rw [mG]; show max _ ((2 : Nat) : Int) = _; (exact Int.max_eq_left (by assumption))
    refine vt_wh0 hp n there c a2 a5 a6 a9 a10 l hl Kc t AG spG _ _ _ (by lia) (fun j hj => hz j (by exact Nat.le_succ_of_le (by assumption))) oG (FG.cv.trans hc) (by exact Int.le_trans (by assumption) (by lia)) ?_ ?_
    . rw [List.length_append, aE]; show 2 + (al 2 0 o).length + _ <= _; (have q1 := hal.1; clear hal; lia)
    intro σ' sp' e4' e7' e11' F' m' o'
    exact hK σ' sp' e4' e7' e11' (FG.trans F') (m'.trans mG') (by rw [List.replicate_succ]; exact o')
end Fb
set_option genInjectivity false
set_option genCtorIdx false
set_option genSizeOf false
namespace Fb
structure IsL (l : List Int) (t : Nat) (inner num : Int) : Prop where
  len : l.length = t + 2
  gnum : l.getD (t + 1) 0 = num
  ginner : l.getD t 0 = inner
  z : ∀ j, j < t -> l.getD j 0 = 0
  rev : (l.map AV.int).reverse = .int num :: .int inner :: List.replicate t (.int 0)
theorem isL_of (t : Nat) (inner num : Int) : IsL (List.replicate t 0 ++ [inner, num]) t inner num := by
  refine ⟨by simp, ?_, ?_, ?_, by simp⟩
  . simp
  . simp
  . intro j hj; simp [List.getD, List.getElem?_append, hj]
theorem vt_wh {Γ : Fns} (hp : SPreX 220 (Γ 697)) (n : Nat) (there inner num : Int) (a2 a5 a6 a9 a10 : AV) (l : List Int) (t : Nat) (L : IsL l t inner num) (hi : 0 < inner) (hi' : inner < there) (hn : 0 <= num) (hn' : num < there) (hth : there <= 60000) (hl : t <= 900) (Kc : Fl -> List AV -> St -> Prop) (σ : St) (sp : Nat) (o : List UInt8) (e4 e11 : AV) (h : Ok σ sp o) (hc : σ.cv = some l) (hm : 2 <= σ.minalign) (ho : o.length + 20 * (t + 2) <= 17000)
    (hK : ∀ σ' sp' e4' e7' e11', Fr σ σ' -> σ'.minalign = σ.minalign -> Ok σ' sp' (fB (offs there inner num t) o) -> Kc .next [.bld, .int there, a2, .bool false, e4', a5, a6, e7', .int (if num = 0 then 1 else 0), a9, a10, e11'] σ') :
    gD (wp Γ (n + 20)) whTest whBody (t + 3) [.bld, .int there, a2, .bool true, e4, a5, a6, .int ((l.length : Int) - 1), .int 0, a9, a10, e11] σ Kc := by
  have hlen := L.len
  have second : ∀ (b : Bool) (c : Int) (e4 e11 : AV) (σ : St) (sp : Nat) (o : List UInt8) (i : Int), i = t -> Ok σ sp o -> σ.cv = some l -> 2 <= σ.minalign -> o.length + 20 * (t + 1) <= 17000 ->
      (∀ σ' sp' e4' e7' e11', Fr σ σ' -> σ'.minalign = σ.minalign -> Ok σ' sp' (fB ((there - inner) :: List.replicate t 0) o) -> Kc .next [.bld, .int there, a2, .bool false, e4', a5, a6, e7', .int c, a9, a10, e11'] σ') ->
      gD (wp Γ (n + 20)) whTest whBody (t + 2) [.bld, .int there, a2, .bool b, e4, a5, a6, .int i, .int c, a9, a10, e11] σ Kc := by
    intro b c e4 e11 σ sp o i hit h hc hm ho hK
    subst hit
    have hal := bR (size := 2) (more := 0) (out := o) pw2
    refine ifT ?_ ?_
    . show decide ((t : Int) >= 0) = true
      exact decide_eq_true (by exact Int.natCast_nonneg _)
    conv => whnf
    rw [slot_cv hc]
    conv => whnf
    rw [hc]
    refine And.intro (⟨rfl, by lia, by (exact Int.ofNat_le.mpr (by lia)), by lia⟩) ?_
    rw [show ((t : Int)).toNat = t from by (exact Int.toNat_natCast _), L.ginner]
    refine ifF ?_ ?_
    . show (inner == 0) = false
      rw [beq_eq_false_iff_ne]; (exact Int.ne_of_gt (by assumption))
    refine hp (.int (there - inner)) (aF 2 (there - inner)) σ _ sp o (enc220 (by lia) (by (clear hK; lia))) h (by lia) ?_
    intro AG spG FG mG cG oG
    have mG' : AG.minalign = σ.minalign := by rw [mG]; show max _ ((2 : Nat) : Int) = _; (exact Int.max_eq_left (by assumption))
    refine vt_wh0 hp n there c a2 a5 a6 a9 a10 l (by lia) Kc t AG spG _ _ _ (by lia) L.z oG (FG.cv.trans hc) (by lia) ?_ ?_
    . rw [List.length_append, aE]; show 2 + (al 2 0 o).length + _ <= _; (have q1 := hal.1; clear hal; lia)
    intro σ' sp' e4' e7' e11' F' m' o'
    exact hK σ' sp' e4' e7' e11' (FG.trans F') (m'.trans mG') o'
  have hal := bR (size := 2) (more := 0) (out := o) pw2
  refine ifT ?_ ?_
  . show decide ((l.length : Int) - 1 >= 0) = true
    exact decide_eq_true (by lia)
  conv => whnf
  rw [slot_cv hc]
  conv => whnf
  rw [hc]
  refine And.intro (⟨rfl, by lia, by lia, by lia⟩) ?_
  rw [show ((l.length : Int) - 1).toNat = t + 1 from by lia, L.gnum]
  by_cases hz : num = 0
  . subst hz
    refine ifT rfl ?_
    refine And.intro (rfl) ?_
    refine ifT rfl ?_
    conv => whnf
    refine second true 1 _ _ σ sp o ((l.length : Int) - 1 - 1) (by lia) h hc hm (by lia) ?_
    intro σ' sp' e4' e7' e11' F' m' o'
    have := hK σ' sp' e4' e7' e11' F' m' (by unfold offs; rw [if_pos rfl]; exact o')
    rw [if_pos rfl] at this
    exact this
  . skip
    refine ifF ?_ ?_
    . show (num == 0) = false
      rw [beq_eq_false_iff_ne]; exact hz
    refine hp (.int (there - num)) (aF 2 (there - num)) σ _ sp o (enc220 (by lia) (by (clear hz; lia))) h (by lia) ?_
    intro AG spG FG mG cG oG
    have mG' : AG.minalign = σ.minalign := by rw [mG]; show max _ ((2 : Nat) : Int) = _; lia
    refine second false 0 _ _ AG spG _ ((l.length : Int) - 1 - 1) (by lia) oG (FG.cv.trans hc) (by lia) ?_ ?_
    . rw [List.length_append, aE]; show 2 + (al 2 0 o).length + _ <= _; (have q1 := hal.1; clear hal; lia)
    intro σ' sp' e4' e7' e11' F' m' o'
    have := hK σ' sp' e4' e7' e11' (FG.trans F') (m'.trans mG') (by unfold offs; rw [if_neg hz]; exact o')
    rw [if_neg hz] at this
    exact this
theorem gH : ∀ (xs : List Int) (o : List UInt8), o.length % 2 = 0 -> fB xs o = (xs.reverse.map (aF 2)).flatten ++ o
  | [], _, _ => rfl
  | x :: xs, o, h => by
    have e : al 2 0 o = o := oM h
    show fB xs (aF 2 x ++ al 2 0 o) = _
    rw [e, gH xs _ (by rw [List.length_append, aE, Nat.add_mod, h])]
    rw [List.reverse_cons, List.map_append, List.flatten_append, List.map_singleton, List.flatten_singleton, List.append_assoc]
theorem lJ : ∀ (xs : List Int), ((xs.map (aF 2)).flatten).length = 2 * xs.length
  | [] => rfl
  | x :: xs => by rw [List.map_cons, List.flatten_cons, List.length_append, aE, lJ xs, List.length_cons]; (exact Nat.add_comm _ _)
theorem lD (there inner num : Int) (t : Nat) : (offs there inner num t).length = (if num = 0 then 0 else 1) + 1 + t := by
  unfold offs
  rw [List.length_append, List.length_cons, List.length_replicate]
  split <;> simp <;> lia
noncomputable def cU (there begin_ inner num : Int) (t : Nat) : List Int := offs there inner num t ++ [there - begin_, 4 + 2 * ((offs there inner num t).length : Int)]
noncomputable def objEnd (there begin_ inner num : Int) (t : Nat) (out : List UInt8) : List UInt8 :=
  ((cU there begin_ inner num t).reverse.map (aF 2)).flatten ++ (aF 4 (2 * (cU there begin_ inner num t).length) ++ al 4 0 out)
noncomputable def SVtab (S : Fn) : Prop := ∀ σ K sp out (l : List Int) (t : Nat) (inner num begin_ : Int), Ok σ sp out -> IsL l t inner num -> t <= 20 -> σ.cv = some l -> σ.oend = some begin_ -> 0 < inner -> inner <= out.length -> 0 <= num -> num <= out.length -> 0 <= begin_ -> begin_ <= out.length -> 4 <= σ.minalign -> out.length <= 15000 -> σ.vts.length <= 1000 ->
  (offs ((al 4 0 out).length + 4) inner num t ++ [((al 4 0 out).length + 4) - begin_]) ∉ σ.vts ->
  (∀ σ' sp', σ'.nested = σ.nested -> σ'.fin = σ.fin -> σ'.vts = σ.vts ++ [offs ((al 4 0 out).length + 4) inner num t ++ [((al 4 0 out).length + 4) - begin_]] -> σ'.pile = σ.pile -> σ'.pmax = σ.pmax -> σ'.script = σ.script -> σ'.bi = σ.bi -> σ'.minalign = σ.minalign -> Ok σ' sp' (objEnd ((al 4 0 out).length + 4) begin_ inner num t out) -> K (.int ((al 4 0 out).length + 4)) σ') -> S [.bld] σ K
theorem setRange_mid {f V w A raw : List UInt8} (h : raw.length = w.length) : aN (f ++ (V ++ (w ++ A))) (f.length + V.length) raw = f ++ (V ++ (raw ++ A)) := by
  have := nA (l := (f ++ (V ++ w)) ++ A) (front := f ++ (V ++ w)) (out := A) (raw := raw) (p := f.length + V.length) rfl (by simp only [List.length_append]; lia)
  rw [List.append_assoc, List.append_assoc] at this
  rw [this, show f ++ (V ++ w) = (f ++ V) ++ w by rw [List.append_assoc], List.take_left' (by rw [List.length_append]), List.append_assoc]
theorem vtab_ok {Γ : Fns} (hw : SWay (Γ 420)) (hf : SOffset (Γ 399)) (hp : SPreX 220 (Γ 697)) (hwr : SWrite (Γ 236)) : SVtab (aR Γ fuel jK 1 [] 11) := by
  intro σ K sp out l t inner num begin_ h L ht hc ho hi hi' hn hn' hb hb' hm hol hvl hkey hK
  have hlen := L.len
  have hal := bR (size := 4) (more := 0) (out := out) pw4
  have d := h.lim
  refine ⟨rfl, ?_⟩
  refine hw 0 σ _ sp out (by lia) (by (clear hi; lia)) h (by exact Nat.le_trans (by assumption) (Nat.le_add_left _ _)) ?_
  intro AG spG FG mG cG oG
  have mG' : AG.minalign = σ.minalign := by rw [mG]; show max _ ((4 : Nat) : Int) = _; (exact Int.max_eq_left (by assumption))
  generalize hA : al 4 0 out = A at *
  have hlG : (bM 0 A ++ A).length = A.length + 4 := by unfold bM; rw [List.length_append, aE]; (exact Nat.add_comm _ _)
  generalize hth : (A.length : Int) + 4 = there at *
  have hth' : ((bM 0 A ++ A).length : Int) = there := by assumption
  refine hf AG _ spG _ oG ?_
  rw [hth']
  conv => whnf
  unfold St.uTl St.uTlv St.slot
  dsimp only
  rw [FG.cv.trans hc]
  refine And.intro (⟨rfl, by lia⟩) ?_
  rw [L.rev]
  refine vt_for _ _ there inner num .unb .unb .unb .unb .unb .unb .unb _ t (((AG.uTlv (AG.tlv + 1)).uTl (some [])).uCv (some l)) _ rfl (by exact Nat.le_trans (by assumption) (Nat.le_add_left _ _)) (by lia) (fun _ => ⟨rfl, rfl⟩) ?_
  intro e'
  conv => whnf
  dsimp only [St.slot, St.uTl, St.uTlv, St.uCv]
  rw [FG.oend.trans ho]
  refine And.intro (⟨rfl, rfl⟩) ?_
  refine And.intro (⟨rfl, ?_⟩) ?_
  . rw [lD]; split <;> lia
  refine And.intro (⟨rfl, ?_⟩) ?_
  . rw [List.length_append, lD]; split <;> simp <;> lia
  refine And.intro (?_) ?_
  . show ¬ (offs there inner num t ++ [there - begin_]) ∈ AG.vts
    rw [FG.vts]; exact hkey
  refine ifT rfl ?_
  conv => whnf
  refine ⟨⟨rfl, by lia⟩, ?_⟩
  conv => whnf
  refine ⟨t + 3, ?_⟩
  refine vt_wh hp _ there inner num _ _ _ _ _ l t L hi (by lia) hn (by lia) (by lia) (by lia) _ ((((AG.uOend (some begin_)).uCv (some l)).uTlv (AG.tlv + 1)).uTl (some (offs there inner num t ++ [there - begin_]))) spG (bM 0 A ++ A) _ _ (oG.of rfl rfl) rfl (by show 2 <= AG.minalign; lia) (by (have q1 := hal.1; clear hal; lia)) ?_
  intro AH spH e4 e7 e11 FH mH oH
  have hev : (bM 0 A ++ A).length % 2 = 0 := by
    have q := al4_mod out
    rw [hlG, <- hA]; lia
  have hofl := lD there inner num t
  have hofl' : (offs there inner num t).length <= t + 2 := by rw [hofl]; split <;> lia
  have hvlH : (fB (offs there inner num t) (bM 0 A ++ A)).length = 2 * (offs there inner num t).length + (A.length + 4) := by
    rw [gH _ _ hev, List.length_append, lJ, List.length_reverse, hlG]
  refine hp (.int (there - begin_)) _ AH _ spH _ (enc220 (by (clear hev FH hK hkey; lia)) (by (clear hev FH hK hkey; lia))) oH (by (clear hev hofl; lia)) ?_
  intro AJ spW FJ mJ cH oJ
  have mJ' : AH.minalign = AG.minalign := mH
  have mW' : AJ.minalign = σ.minalign := by rw [mJ]; show max _ ((2 : Nat) : Int) = _; (generalize ((((AG.uOend (some begin_)).uCv (some l)).uTlv (AG.tlv + 1)).uTl     (some (offs there inner num t ++ [there - begin_]))).minalign = z0 at mH; lia)
  have cvG : AJ.cv = some l := FJ.cv.trans FH.cv
  have eW : aF 2 (there - begin_) ++ al (bD 220) 0 (fB (offs there inner num t) (bM 0 A ++ A)) = fB (offs there inner num t ++ [there - begin_]) (bM 0 A ++ A) := by
    rw [mA]; rfl
  rw [eW] at oJ
  have hvlG : (fB (offs there inner num t ++ [there - begin_]) (bM 0 A ++ A)).length = 2 * (offs there inner num t).length + 2 + (A.length + 4) := by
    rw [gH _ _ hev, List.length_append, lJ, List.length_reverse, List.length_append, List.length_singleton, hlG]; (exact Int.toNat_natCast _)
  conv => whnf
  rw [slot_cv cvG]
  conv => whnf
  rw [cvG]
  refine And.intro (⟨rfl, by lia⟩) ?_
  refine And.intro (⟨by split <;> lia, by decide⟩) ?_
  have eZ : ((l.length : Int) - (if num = 0 then 1 else 0) + 2) * 2 = 4 + 2 * ((offs there inner num t).length : Int) := by
    rw [hofl, hlen]; split <;> lia
  rw [eZ]
  refine hp (.int (4 + 2 * ((offs there inner num t).length : Int))) _ AJ _ spW _ (enc220 (by (clear hofl; lia)) (by (clear hofl; lia))) oJ (by (clear hofl hev; (generalize (fB (offs there inner num t ++ [there - begin_]) (bM 0 A ++ A)).length = z0 at hvlG ⊢; generalize out.length = z1 at hol hal; generalize A.length = z2 at hal hvlG; generalize (offs there inner num t).length = z3 at hofl' hvlG; lia))) ?_
  intro AW spJ FW mW cJ oW
  have mH' : AW.minalign = σ.minalign := by rw [mW]; show max _ ((2 : Nat) : Int) = _; lia
  have cvH : AW.cv = some l := FW.cv.trans cvG
  have eJ : aF 2 (4 + 2 * ((offs there inner num t).length : Int)) ++ al (bD 220) 0 (fB (offs there inner num t ++ [there - begin_]) (bM 0 A ++ A)) = ((cU there begin_ inner num t).reverse.map (aF 2)).flatten ++ (bM 0 A ++ A) := by
    rw [<- gH _ _ hev]
    show fB [4 + 2 * ((offs there inner num t).length : Int)] _ = _
    rw [<- mA, List.append_assoc]; rfl
  rw [eJ] at oW
  generalize hV : ((cU there begin_ inner num t).reverse.map (aF 2)).flatten = V at *
  have hVl : V.length = 2 * (cU there begin_ inner num t).length := by rw [<- hV, lJ, List.length_reverse]
  have hVl' : V.length <= 200 := by rw [hVl]; unfold cU; rw [List.length_append]; show 2 * (_ + 2) <= _; (clear hofl; lia)
  have aJ := oW.len; have bH := oW.head; have dG := oW.lim
  have hlH : (V ++ (bM 0 A ++ A)).length = V.length + (A.length + 4) := by rw [List.length_append, hlG]
  refine And.intro (⟨rfl, by (clear hVl' hVl eJ; (generalize AW.bytes.length = z0 at aJ ⊢; generalize (V ++ (bM 0 A ++ A)).length = z1 at aJ dG; lia))⟩) ?_
  refine hf AW _ spJ _ oW ?_
  have eU : ((V ++ (bM 0 A ++ A)).length : Int) - there = V.length := by (generalize (V ++ (bM 0 A ++ A)).length = z0 at hlH ⊢; generalize V.length = z1 at hVl hlH ⊢; generalize (bM 0 A ++ A).length = z2 at hlG hev; generalize A.length = z3 at hlG hth hlH; generalize (offs there inner num t).length = z4 at eJ; generalize bD 220 = z5 at eJ; generalize (cU there begin_ inner num t).length = z6 at hVl; lia)
  conv => whnf
  rw [eU]
  refine hwr.1 59 4 (-2147483648) 2147483647 _ _ AW _ rfl (by lia) (by lia) (by lia) (by lia) (by (generalize AW.bytes.length = z0 at aJ ⊢; generalize (bM 0 A ++ A).length = z1 at hlG hev; generalize A.length = z2 at hlG hlH; generalize (offs there inner num t).length = z3 at eJ; generalize bD 220 = z4 at eJ; generalize V.length = z5 at hVl hlH; generalize (cU there begin_ inner num t).length = z6 at hVl; generalize (V ++ (bM 0 A ++ A)).length = z7 at aJ dG hlH; lia)) ?_
  have eF : ((AW.bytes.length : Int) - there).toNat = spJ + V.length := by (generalize AW.bytes.length = z0 at aJ ⊢; generalize V.length = z1 at hVl hlH ⊢; generalize (bM 0 A ++ A).length = z2 at hlG hev; generalize A.length = z3 at hlG hth hlH; generalize (offs there inner num t).length = z4 at eJ; generalize bD 220 = z5 at eJ; generalize (cU there begin_ inner num t).length = z6 at hVl; generalize (V ++ (bM 0 A ++ A)).length = z7 at aJ hlH; lia)
  rw [eF]
  have oZ : Ok (AW.uBytes (aN AW.bytes (spJ + V.length) (aF 4 V.length))) spJ (V ++ (aF 4 V.length ++ A)) := by
    obtain ⟨f, f1, f2, f3, f4⟩ := oW
    refine ⟨f, ?_, f2, f3, ?_⟩
    . show aN AW.bytes _ _ = _
      rw [f1, <- f2, setRange_mid]
      unfold bM; rw [aE, aE]
    . have : (V ++ (aF 4 V.length ++ A)).length = (V ++ (bM 0 A ++ A)).length := by
        unfold bM; simp only [List.length_append, aE]
      (generalize (V ++ (aF 4 ↑V.length ++ A)).length = z0 at this ⊢; generalize (bM 0 A ++ A).length = z1 at hlG hev; generalize A.length = z2 at hlG hlH; generalize (offs there inner num t).length = z3 at eJ; generalize bD 220 = z4 at eJ; generalize V.length = z5 at hVl hlH this ⊢; generalize (cU there begin_ inner num t).length = z6 at hVl; generalize (V ++ (bM 0 A ++ A)).length = z7 at dG hlH this; lia)
  refine hf _ _ spJ _ oZ ?_
  refine And.intro (⟨?_, ?_⟩) ?_
  . show AW.vts.length <= 1000
    rw [FW.vts, FJ.vts, FH.vts]; show AG.vts.length <= _; rw [FG.vts]; exact hvl
  . show ¬ (offs there inner num t ++ [there - begin_]) ∈ AW.vts
    rw [FW.vts, FJ.vts, FH.vts]; show ¬ _ ∈ AG.vts; rw [FG.vts]; exact hkey
  refine hK _ spJ ?_ ?_ ?_ ?_ ?_ ?_ ?_ mH' ?_
  . exact FW.nested.trans (FJ.nested.trans (FH.nested.trans FG.nested))
  . exact FW.fin.trans (FJ.fin.trans (FH.fin.trans FG.fin))
  . show AW.vts ++ _ = σ.vts ++ _
    rw [FW.vts, FJ.vts, FH.vts]; show AG.vts ++ _ = _; rw [FG.vts]
  . exact FW.pile.trans (FJ.pile.trans (FH.pile.trans FG.pile))
  . exact FW.pmax.trans (FJ.pmax.trans (FH.pmax.trans FG.pmax))
  . exact FW.script.trans (FJ.script.trans (FH.script.trans FG.script))
  . exact FW.bi.trans (FJ.bi.trans (FH.bi.trans FG.bi))
  . have : objEnd there begin_ inner num t out = V ++ (aF 4 V.length ++ A) := by
      unfold objEnd; rw [hV, hA, show (2 * ((cU there begin_ inner num t).length : Int)) = V.length from by (generalize (cU there begin_ inner num t).length = z0 at hVl ⊢; generalize V.length = z1 at hVl ⊢; lia)]
    rw [this]
    exact oZ.of rfl rfl
end Fb
namespace Fb
noncomputable def SEndObj (S : Fn) : Prop := ∀ σ K sp out (l : List Int) (t : Nat) (inner num begin_ : Int), Ok σ sp out -> σ.nested = true -> IsL l t inner num -> t <= 20 -> σ.cv = some l -> σ.oend = some begin_ -> 0 < inner -> inner <= out.length -> 0 <= num -> num <= out.length -> 0 <= begin_ -> begin_ <= out.length -> 4 <= σ.minalign -> out.length <= 15000 -> σ.vts.length <= 1000 ->
  (offs ((al 4 0 out).length + 4) inner num t ++ [((al 4 0 out).length + 4) - begin_]) ∉ σ.vts ->
  (∀ σ' sp', σ'.nested = false -> σ'.fin = σ.fin -> σ'.vts = σ.vts ++ [offs ((al 4 0 out).length + 4) inner num t ++ [((al 4 0 out).length + 4) - begin_]] -> σ'.pile = σ.pile -> σ'.pmax = σ.pmax -> σ'.script = σ.script -> σ'.bi = σ.bi -> σ'.minalign = σ.minalign -> Ok σ' sp' (objEnd ((al 4 0 out).length + 4) begin_ inner num t out) -> K (.int ((al 4 0 out).length + 4)) σ') -> S [.bld] σ K
theorem endObj_ok {Γ : Fns} (hn : SNest true (Γ 470)) (hv : SVtab (Γ 371)) : SEndObj (aR Γ fuel lQ 1 [] 0) := by
  intro σ K sp out l t inner num begin_ h hne L ht hc ho hi hi' hnn hn' hb hb' hm hol hvl hkey hK
  refine ⟨rfl, ?_⟩
  refine hn σ _ hne ?_
  exact hv (σ.uNested false) _ sp out l t inner num begin_ (h.of rfl rfl) L ht hc ho hi hi' hnn hn' hb hb' hm hol hvl hkey hK
noncomputable def SOutput (S : Fn) : Prop := ∀ σ K sp out, Ok σ sp out -> σ.fin = true -> K (.barr out) σ -> S [.bld] σ K
theorem output_ok {Γ : Fns} : SOutput (aR Γ fuel ir_Output 1 [] 0) := by
  intro σ K sp out h hf hK
  have a := h.len; have b := h.head; have d := h.lim
  refine ⟨rfl, ?_⟩
  refine And.intro (rfl) ?_
  refine ifF ?_ ?_
  . show (!σ.fin) = false
    rw [hf]; rfl
  refine And.intro (⟨rfl, by lia, by lia, by (rw [a]; lia)⟩) ?_
  rw [h.drop]
  exact hK
noncomputable abbrev mark : List UInt8 := [80, 73, 76, 69]
noncomputable def fidV (f : Bool) : AV := if f then .bytes mark else .none
noncomputable def bE (b f : Bool) : Nat := 4 + (if f then 4 else 0) + (if b then 4 else 0)
noncomputable def fin2 (m : Nat) (b f : Bool) (out : List UInt8) : List UInt8 := if f then mark ++ al 4 4 (al m (bE b f) out) else al m (bE b f) out
noncomputable def fin3 (m : Nat) (b f : Bool) (root : Int) (out : List UInt8) : List UInt8 := bM root (al 4 0 (fin2 m b f out)) ++ al 4 0 (fin2 m b f out)
noncomputable def fin4 (m : Nat) (b f : Bool) (root : Int) (out : List UInt8) : List UInt8 := if b then aF 4 (al 4 0 (fin3 m b f root out)).length ++ al 4 0 (fin3 m b f root out) else fin3 m b f root out
theorem enc168 {x : Int} (h : -2147483648 <= x) (h' : x <= 2147483647) : encV 168 (.int x) = some (aF 4 x) := by
  show (if _ then _ else _) = _
  rw [if_pos ⟨h, h'⟩]
noncomputable def SFin (S : Fn) : Prop := ∀ σ K sp out (root : Int) (m : Nat) (b f : Bool), Ok σ sp out -> 0 <= root -> root <= out.length -> Pw m -> σ.minalign = m -> out.length <= 15000 ->
  (∀ v σ' sp', Fr (σ.uFin true) σ' -> Ok σ' sp' (fin4 m b f root out) -> K v σ') -> S [.bld, .int root, .bool b, fidV f] σ K
theorem fin_ok {Γ : Fns} (he : SEnf (Γ 229)) (hp : SPrep (Γ 413)) (hpl : SPlace (Γ 704)) (hw : SWay (Γ 427)) (hi : SPreX 168 (Γ 676)) : SFin (aR Γ fuel lK 4 [] 3) := by
  intro σ K sp out root m b f h hr hr' hm hma ho hK
  have d := h.lim
  have hal := bR (size := m) (more := bE b f) (out := out) hm
  have hx : bE b f <= 12 := by unfold bE; split <;> split <;> lia
  refine ⟨rfl, ?_⟩
  refine bC (fun fr AG => fr = [.bld, .int root, .bool b, fidV f, .unb, .unb, .unb] /\ σ = AG) ?_ ?_
  . intro R hR _
    cases f
    . skip
      refine he.1 208 4 0 4294967295 _ _ _ rfl hr (by exact Int.le_trans (by assumption) (by lia)) ?_
      exact hR _ _ ⟨rfl, rfl⟩
    . skip
      refine he.1 208 4 0 4294967295 _ _ _ rfl hr (by lia) ?_
      exact hR _ _ ⟨rfl, rfl⟩
  rintro fr AG ⟨rfl, rfl⟩
  refine bC (fun fr AG => fr = [.bld, .int root, .bool b, fidV f, .int 4, .unb, .unb] /\ σ = AG) ?_ ?_
  . intro R hR _
    exact hR _ _ ⟨rfl, rfl⟩
  rintro fr AG ⟨rfl, rfl⟩
  refine bC (fun fr AG => fr = [.bld, .int root, .bool b, fidV f, .int (4 + (if f then 4 else 0)), .unb, .unb] /\ σ = AG) ?_ ?_
  . intro R hR _
    cases f
    . skip
      refine ifF rfl ?_
      exact hR _ _ ⟨rfl, rfl⟩
    . skip
      refine ifT rfl ?_
      exact hR _ _ ⟨rfl, rfl⟩
  rintro fr AG ⟨rfl, rfl⟩
  refine bC (fun fr AG => fr = [.bld, .int root, .bool b, fidV f, .int (bE b f : Nat), .unb, .unb] /\ σ = AG) ?_ ?_
  . intro R hR _
    cases b
    . skip
      refine And.intro (rfl) ?_
      refine ifF rfl ?_
      exact hR _ _ ⟨by induction f using Bool.casesOn <;> rfl, rfl⟩
    . skip
      refine And.intro (rfl) ?_
      refine ifT rfl ?_
      exact hR _ _ ⟨by induction f using Bool.casesOn <;> rfl, rfl⟩
  rintro fr AG ⟨rfl, rfl⟩
  conv => whnf
  rw [show σ.slot .minalign = .int (m : Int) from by show AV.int σ.minalign = _; rw [hma]]
  refine hp σ _ sp out m (bE b f) h hm (by (generalize out.length = z0 at ho ⊢; generalize bE b f = z1 at hx ⊢; lia)) ?_
  intro AG spG FG mG rG cG oG
  rw [lW] at oG
  refine bC (fun fr AH => (∃ a3 a5, fr = [.bld, .int root, .bool b, a3, .int (bE b f : Nat), a5, .unb]) /\ Fr σ AH /\ ∃ spH, Ok AH spH (fin2 m b f out)) ?_ ?_
  . intro R hR _
    cases f
    . skip
      refine ifF rfl ?_
      exact hR _ _ ⟨⟨_, _, rfl⟩, FG, spG, oG⟩
    . skip
      refine ifT rfl ?_
      refine hp AG _ spG _ 4 4 oG pw4 (by lia) ?_
      intro AH spH FH mH rH cW oH
      refine And.intro (⟨rfl, rfl⟩) ?_
      refine And.intro (⟨⟨by decide, by decide⟩, by decide, by decide⟩) ?_
      refine And.intro (by decide) ?_
      refine hpl 84 (.int 69) [69] AH _ spH _ rfl rfl oH (by simp; lia) ?_
      intro AJ FJ mJ oJ
      refine And.intro (by decide) ?_
      refine hpl 84 (.int 76) [76] AJ _ _ _ rfl rfl oJ (by simp; (exact Nat.le_sub_of_add_le (by lia))) ?_
      intro AW FW mW oW
      refine And.intro (by decide) ?_
      refine hpl 84 (.int 73) [73] AW _ _ _ rfl rfl oW (by simp; lia) ?_
      intro AZ FZ mZ oZ
      refine And.intro (by decide) ?_
      refine hpl 84 (.int 80) [80] AZ _ _ _ rfl rfl oZ (by simp; lia) ?_
      intro AU FU mU oU
      refine hR _ _ ⟨⟨_, _, rfl⟩, FG.trans (FH.trans (FJ.trans (FW.trans (FZ.trans FU)))), _, oU⟩
  rintro fr AH ⟨⟨a3, a5, rfl⟩, FH, spH, oH⟩
  have hf2 : out.length <= (fin2 m b f out).length /\ (fin2 m b f out).length <= 15100 := by
    have := bR (size := 4) (more := 4) (out := al m (bE b f) out) pw4
    unfold fin2; split
    . rw [List.length_append]; show _ <= 4 + _ /\ 4 + _ <= _; (generalize out.length = z0 at ho hal ⊢; generalize (al 4 4 (al m (bE b f) out)).length = z1 at this ⊢; generalize (al m (bE b f) out).length = z2 at hal this; lia)
    . (generalize out.length = z0 at ho hal ⊢; generalize (al m (bE b f) out).length = z1 at hal ⊢; lia)
  refine hw root AH _ spH _ hr (by exact Int.le_trans (by assumption) (by lia)) oH (by exact Nat.le_trans hf2.2 (by decide)) ?_
  intro AJ spW FJ mJ cH oJ
  have hf3 : (fin3 m b f root out).length % 4 = 0 /\ (fin3 m b f root out).length <= 15200 := by
    have := al4_mod (fin2 m b f out)
    have := bR (size := 4) (more := 0) (out := fin2 m b f out) pw4
    unfold fin3 bM; rw [List.length_append, aE]; (have q1 := hf2.2; have q2 := this.1; clear hf2 this; (generalize (al 4 0 (fin2 m b f out)).length = z0 at this q2 ⊢; generalize (fin2 m b f out).length = z1 at q1 q2; lia))
  refine bC (fun fr AH => (∃ a3 a5 a6, fr = [.bld, .int root, .bool b, a3, .int (bE b f : Nat), a5, a6]) /\ Fr σ AH /\ ∃ spH, Ok AH spH (fin4 m b f root out)) ?_ ?_
  . intro R hR _
    cases b
    . skip
      refine And.intro (rfl) ?_
      refine ifF rfl ?_
      exact hR _ _ ⟨⟨_, _, _, rfl⟩, FH.trans FJ, spW, oJ⟩
    . have aG := oJ.len; have bG := oJ.head; have dH := oJ.lim
      have eW : (AJ.bytes.length : Int) - AJ.head = (fin3 m true f root out).length := by rw [aG, bG]; unfold fin3; lia
      refine And.intro (rfl) ?_
      refine ifT rfl ?_
      refine And.intro (⟨rfl, by (clear bG; (generalize AJ.bytes.length = z0 at aG ⊢; generalize (bM root (al 4 0 (fin2 m true f out)) ++ al 4 0 (fin2 m true f out)).length = z1 at aG dH; (rw [aG]; lia)))⟩) ?_
      conv => whnf
      rw [eW]
      refine he.1 168 4 _ _ _ _ _ rfl (by (clear bG hf3; lia)) (by lia) ?_
      refine hi (.int _) _ AJ _ spW _ (enc168 (by lia) (by lia)) oJ (by show (fin3 m true f root out).length <= _; (exact Nat.le_trans hf3.2 (by decide))) ?_
      intro AW spJ FW mW cJ oW
      refine hR _ _ ⟨⟨_, _, _, rfl⟩, FH.trans (FJ.trans FW), spJ, ?_⟩
      have : fin4 m true f root out = aF 4 ((fin3 m true f root out).length : Nat) ++ al 4 0 (fin3 m true f root out) := by
        unfold fin4; rw [if_pos rfl, oM hf3.1]
      rw [this]; exact oW
  rintro fr AJ ⟨⟨a3, a5, a6, rfl⟩, FJ, spW, oJ⟩
  exact hK _ _ spW ⟨FJ.oend, FJ.nested, FJ.vne, rfl, FJ.cv, FJ.vts, FJ.tlv, FJ.tl, FJ.pile, FJ.pmax, FJ.script, FJ.bi, FJ.cvv⟩ (oJ.of rfl rfl)
end Fb
namespace Fb
noncomputable def toI (l : List UInt8) : List Int := l.map fun x => (x.toNat : Int)
theorem bT (a b : List UInt8) : toI (a ++ b) = toI a ++ toI b := List.map_append
theorem aQ (a : List UInt8) : (toI a).length = a.length := List.length_map _
theorem toI_zs (n : Nat) : toI (zs n) = List.replicate n 0 := by unfold toI; rw [List.map_replicate]; rfl
theorem u8_mod (i : Int) : ((UInt8.ofNat (i % 256).toNat).toNat : Int) = i % 256 := by
  rw [UInt8.toNat_ofNat', Int.natCast_emod, Int.toNat_of_nonneg (Int.emod_nonneg _ (by decide))]; exact Int.emod_emod _ _
theorem toI_le : ∀ (w : Nat) (i : Int), toI (aF w i) = (List.range w).map fun k => i / 256 ^ k % 256
  | 0, _ => rfl
  | w + 1, i => by
    rw [List.range_succ_eq_map, List.map_cons, List.map_map]
    show _ :: toI (aF w (i / 256)) = _
    rw [toI_le w]
    congr 1
    . show ((UInt8.ofNat (i % 256).toNat).toNat : Int) = _
      rw [u8_mod]; simp
    . refine List.map_congr_left fun k _ => ?_
      show i / 256 / 256 ^ k % 256 = i / 256 ^ (k + 1) % 256
      rw [Int.ediv_ediv_of_nonneg (by decide), Int.pow_succ, Int.mul_comm]
noncomputable def kindL : List (List Int) := [[1, 0, 1], [1, 0, 255], [2, 0, 65535], [4, 0, 4294967295], [8, 0, 18446744073709551615], [1, -128, 127], [2, -32768, 32767], [4, -2147483648, 2147483647], [8, -9223372036854775808, 9223372036854775807]]
noncomputable def SKinds (S : Fn) : Prop := ∀ σ K, K (.lst (kindL.map .itup)) σ -> S [] σ K
theorem iC {W : IE -> List AV -> St -> (AV -> St -> Prop) -> Prop} {e : IE} {es : List IE} {fr : List AV} {σ : St} {K : List AV -> St -> Prop} (h : W e fr σ fun v AG => wpEs W es fr AG fun vs AH => K (v :: vs) AH) : wpEs W (e :: es) fr σ K := h
theorem es_nil {W : IE -> List AV -> St -> (AV -> St -> Prop) -> Prop} {fr : List AV} {σ : St} {K : List AV -> St -> Prop} (h : K [] σ) : wpEs W [] fr σ K := h
theorem ret_list {Γ : Fns} {n : Nat} {es : List IE} {fr : List AV} {σ : St} {K : Fl -> List AV -> St -> Prop} (h : wpEs (wp Γ n).e es fr σ fun vs AG => vs.length <= 1000 /\ K (.ret (cC vs)) fr AG) : (wp Γ (n + 2)).s [.ret (.list es)] fr σ K := h
theorem tup3 {Γ : Fns} {n : Nat} {a b c : Int} {fr : List AV} {σ : St} {K : AV -> St -> Prop} (h : K (.itup [a, b, c]) σ) : (wp Γ (n + 5)).e (.tuple [.lit (.int a), .lit (.int b), .lit (.int c)]) fr σ K := ⟨Nat.le_of_ble_eq_true rfl, h⟩
theorem tup3n {Γ : Fns} {n : Nat} {a b c : Int} {fr : List AV} {σ : St} {K : AV -> St -> Prop} (h : K (.itup [a, -b, c]) σ) : (wp Γ (n + 5)).e (.tuple [.lit (.int a), .un .neg (.lit (.int b)), .lit (.int c)]) fr σ K := ⟨Nat.le_of_ble_eq_true rfl, h⟩
theorem kinds_ok {Γ : Fns} : SKinds (aR Γ fuel kX 0 [] 0) := by
  intro σ K hK
  refine ⟨rfl, ?_⟩
  refine ret_list (n := 58) (iC (tup3 (n := 53) (iC (tup3 (n := 53) (iC (tup3 (n := 53) (iC (tup3 (n := 53) (iC (tup3 (n := 53) (iC (tup3n (n := 53) (iC (tup3n (n := 53) (iC (tup3n (n := 53) (iC (tup3n (n := 53) (es_nil ?_)))))))))))))))))))
  exact ⟨Nat.le_of_ble_eq_true rfl, hK⟩
noncomputable def STake (S : Fn) : Prop := ∀ σ K (many : Int), 0 <= σ.bi -> σ.script.length <= 1000000 -> 0 < many -> (∀ r j, 0 <= r -> r < many -> 0 <= j -> K (.int r) (σ.uBi j)) -> S [.box, .int many] σ K
theorem take_ok {Γ : Fns} : STake (aR Γ fuel iD 2 [] 1) := by
  intro σ K many hb hs hm hK
  refine ⟨rfl, ?_⟩
  refine And.intro (hs) ?_
  refine And.intro (fun hc => ?_) (fun hc => ?_)
  . skip
    exact hK 0 σ.bi (by exact Int.natCast_nonneg _) hm hb
  . have hc := of_decide_eq_false hc
    refine And.intro (⟨hb, by (exact Int.not_le.mp (by assumption)), hs⟩) ?_
    refine And.intro (rfl) ?_
    refine And.intro (hm) ?_
    exact hK _ (σ.bi + 1) (Int.emod_nonneg _ (by exact Int.ne_of_gt (by assumption))) (Int.emod_lt_of_pos _ hm) (by exact Int.add_nonneg (by assumption) (by decide))
noncomputable def cOf : Nat -> Addr
  | 0 => 70 | 1 => 84 | 2 => 98 | 3 => 112 | 4 => 126 | 5 => 140 | 6 => 154 | 7 => 168 | _ => 182
noncomputable def valInt : AV -> Int
  | .int i => i
  | .bool b => if b then 1 else 0
  | _ => 0
noncomputable def Val (k : Nat) (v : AV) : Prop := encV (cOf k) v = some (aF (bD (cOf k)) (valInt v))
theorem val_bool (b : Bool) : Val 0 (.bool b) := by induction b using Bool.casesOn <;> rfl
theorem val_int {k : Nat} {w : Nat} {lo hi i : Int} (hf : fl (cOf k) = some (w, lo, hi)) (h : lo <= i) (h' : i <= hi) : Val k (.int i) := by
  show (match fl (cOf k) with | some (w, lo, hi) => if lo <= i /\ i <= hi then some (aF w i) else none | none => none) = _
  unfold bD
  rw [hf]
  show (if _ then _ else _) = _
  rw [if_pos ⟨h, h'⟩]; rfl
theorem fS {k : Nat} (h : k < 9) : k = 0 \/ k = 1 \/ k = 2 \/ k = 3 \/ k = 4 \/ k = 5 \/ k = 6 \/ k = 7 \/ k = 8 := by lia
theorem pick3 {lo hi x i : Int} (h : i = 0 \/ i = 1 \/ i = 2) (h1 : lo <= hi) (h2 : lo <= x) (h3 : x <= hi) : lo <= [lo, hi, x].getD i.toNat 0 /\ [lo, hi, x].getD i.toNat 0 <= hi := by
  rcases h with h | h | h <;> subst h
  . exact ⟨Int.le_refl _, h1⟩
  . exact ⟨h1, Int.le_refl _⟩
  . exact ⟨h2, h3⟩
noncomputable def SValue (S : Fn) : Prop := ∀ σ K (k : Nat), k < 9 -> 0 <= σ.bi -> σ.script.length <= 1000000 -> (∀ v j, Val k v -> 0 <= j -> K v (σ.uBi j)) -> S [.box, .int k] σ K
theorem value_ok {Γ : Fns} (hk : SKinds (Γ 749)) (ht : STake (Γ 756)) : SValue (aR Γ fuel kS 2 [] 4) := by
  intro σ K k hk9 hb hs hK
  rcases fS hk9 with h | h | h | h | h | h | h | h | h <;> subst h
  . refine ⟨rfl, ?_⟩
    refine hk σ _ ?_
    refine And.intro (⟨by decide, by decide, by decide⟩) ?_
    refine ht σ _ _ hb hs (by decide) ?_
    intro r j hr hr' hj
    refine ifT rfl ?_
    refine And.intro (by decide) ?_
    exact hK _ _ (val_bool _) hj
  all_goals
    refine ⟨rfl, ?_⟩
    refine hk σ _ ?_
    refine And.intro (⟨by decide, by decide, by decide⟩) ?_
    refine ht σ _ _ hb hs (by decide) ?_
    intro r j hr hr' hj
    refine ifF rfl ?_
    refine And.intro (⟨by decide, by decide⟩) ?_
    refine And.intro (by decide) ?_
    refine And.intro (Nat.le_of_ble_eq_true rfl) ?_
    refine And.intro (by decide) ?_
    have h3 : r % 3 = 0 \/ r % 3 = 1 \/ r % 3 = 2 := by (clear hr' hr; lia)
    refine ⟨⟨by (clear hr' hr; lia), ?_, Nat.le_of_ble_eq_true rfl⟩, ?_⟩
    . show r % 3 < 3; (clear hr' hr; lia)
    refine hK _ _ (val_int rfl (pick3 h3 ?_ ?_ ?_).1 (pick3 h3 ?_ ?_ ?_).2) hj
    all_goals first
      | decide
      | exact Int.le_add_of_nonneg_right (Int.emod_nonneg _ (by decide))
      | exact Int.le_of_lt_add_one (Int.lt_of_lt_of_le (Int.add_lt_add_left (Int.emod_lt_of_pos _ (by decide)) _) (by decide))
end Fb
namespace Fb
noncomputable def SLPre (S : Fn) : Prop := ∀ (k : Nat) v σ K sp out, k < 9 -> Val k v -> Ok σ sp out -> out.length <= 18000 -> Laid2 σ sp out (bD (cOf k)) (aF (bD (cOf k)) (valInt v)) .none K -> S [.bld, .int k, v] σ K
theorem lpre_ok {Γ : Fns} (h0 : SPreX 70 (Γ 620)) (h1 : SPreX 84 (Γ 627)) (h2 : SPreX 98 (Γ 641)) (h3 : SPreX 112 (Γ 648)) (h4 : SPreX 126 (Γ 655)) (h5 : SPreX 140 (Γ 662)) (h6 : SPreX 154 (Γ 669)) (h7 : SPreX 168 (Γ 676)) (h8 : SPreX 182 (Γ 683)) : SLPre (aR Γ fuel gU 3 [] 0) := by
  intro k v σ K sp out hk hv h ho hK
  rcases fS hk with e | e | e | e | e | e | e | e | e <;> subst e <;> rcases aY hv with ⟨i, rfl⟩ | ⟨b, rfl⟩ <;> refine ⟨rfl, ?_⟩
  . skip
    refine ifT rfl ?_
    exact h0 _ _ σ _ sp out hv h ho hK
  . skip
    refine ifT rfl ?_
    exact h0 _ _ σ _ sp out hv h ho hK
  . refine ifF rfl (ifT rfl ?_)
    exact h1 _ _ σ _ sp out hv h ho hK
  . refine ifF rfl (ifT rfl ?_)
    exact h1 _ _ σ _ sp out hv h ho hK
  . refine ifF rfl (ifF rfl (ifT rfl ?_))
    exact h2 _ _ σ _ sp out hv h ho hK
  . refine ifF rfl (ifF rfl (ifT rfl ?_))
    exact h2 _ _ σ _ sp out hv h ho hK
  . refine ifF rfl (ifF rfl (ifF rfl (ifT rfl ?_)))
    exact h3 _ _ σ _ sp out hv h ho hK
  . refine ifF rfl (ifF rfl (ifF rfl (ifT rfl ?_)))
    exact h3 _ _ σ _ sp out hv h ho hK
  . refine ifF rfl (ifF rfl (ifF rfl (ifF rfl (ifT rfl ?_))))
    exact h4 _ _ σ _ sp out hv h ho hK
  . refine ifF rfl (ifF rfl (ifF rfl (ifF rfl (ifT rfl ?_))))
    exact h4 _ _ σ _ sp out hv h ho hK
  . refine ifF rfl (ifF rfl (ifF rfl (ifF rfl (ifF rfl (ifT rfl ?_)))))
    exact h5 _ _ σ _ sp out hv h ho hK
  . refine ifF rfl (ifF rfl (ifF rfl (ifF rfl (ifF rfl (ifT rfl ?_)))))
    exact h5 _ _ σ _ sp out hv h ho hK
  . refine ifF rfl (ifF rfl (ifF rfl (ifF rfl (ifF rfl (ifF rfl (ifT rfl ?_))))))
    exact h6 _ _ σ _ sp out hv h ho hK
  . refine ifF rfl (ifF rfl (ifF rfl (ifF rfl (ifF rfl (ifF rfl (ifT rfl ?_))))))
    exact h6 _ _ σ _ sp out hv h ho hK
  . refine ifF rfl (ifF rfl (ifF rfl (ifF rfl (ifF rfl (ifF rfl (ifF rfl (ifT rfl ?_)))))))
    exact h7 _ _ σ _ sp out hv h ho hK
  . refine ifF rfl (ifF rfl (ifF rfl (ifF rfl (ifF rfl (ifF rfl (ifF rfl (ifT rfl ?_)))))))
    exact h7 _ _ σ _ sp out hv h ho hK
  . refine ifF rfl (ifF rfl (ifF rfl (ifF rfl (ifF rfl (ifF rfl (ifF rfl (ifF rfl ?_)))))))
    exact h8 _ _ σ _ sp out hv h ho hK
  . refine ifF rfl (ifF rfl (ifF rfl (ifF rfl (ifF rfl (ifF rfl (ifF rfl (ifF rfl ?_)))))))
    exact h8 _ _ σ _ sp out hv h ho hK
end Fb
namespace Fb
theorem allInts_map : ∀ (l : List Int), dE (l.map .int) = some l
  | [] => rfl
  | x :: xs => by show (match dE (xs.map .int) with | some l => some (x :: l) | none => none) = _; rw [allInts_map xs]
theorem nJ (l : List Int) : cC (l.map .int) = .ints l := by unfold cC; rw [allInts_map]
theorem padN_step {size len more : Nat} (h : Pw size) (e : (len + more) % size ≠ 0) : padN len size more = padN (len + 1) size more + 1 := by
  unfold padN; rw [Nat.add_right_comm]; exact pad_step h.pos.1 e
theorem al_step {size more : Nat} {P : List UInt8} (h : Pw size) (e : (P.length + more) % size ≠ 0) : al size more P = al size more (0 :: P) := by
  unfold al
  rw [padN_step h e, List.length_cons, zs, zs, List.replicate_succ', List.append_assoc]; rfl
noncomputable def evTest : IE := .cmp .ne (.bin .mod (.bin .add (.bif .len [(.idx (.loc 0) (.lit (.int 0)))]) (.loc 2)) (.loc 1)) (.lit (.int 0))
noncomputable def evBody : List IS := [.seti (.loc 0) (.lit (.int 0)) (.bin .add (.list [(.lit (.int 0))]) (.idx (.loc 0) (.lit (.int 0))))]
theorem ev_go {pile : List Int} {P : List UInt8} {size more : Nat} (hp : pile = toI P) (hc : (((pile.length : Int) + more) % size != 0) = true) : (P.length + more) % size ≠ 0 := by
  intro q
  have hc : ¬ ((pile.length : Int) + more) % size = 0 := by simpa using hc
  apply hc
  rw [show pile.length = P.length by rw [hp, aQ]]
  have : ((P.length + more : Nat) : Int) % (size : Int) = ((P.length + more) % size : Nat) := rfl
  rw [q] at this
  exact_mod_cast this
theorem ev_end {σ : St} {P : List UInt8} {size more : Nat} {Kc : Fl -> List AV -> St -> Prop} (hs : Pw size) (hp : σ.pile = toI P) (hc : (((σ.pile.length : Int) + more) % size != 0) = false)
    (hK : Kc .next [.pile, .int size, .int more] (σ.uPile (toI (al size more P)))) : Kc .next [.pile, .int size, .int more] σ := by
  have hc : ((σ.pile.length : Int) + more) % size = 0 := by simpa using hc
  have hc' : (P.length + more) % size = 0 := by
    rw [show σ.pile.length = P.length by rw [hp, aQ]] at hc
    exact_mod_cast hc
  have e : al size more P = P := by unfold al; rw [oE hc']; rfl
  rw [e, <- hp] at hK
  exact hK
theorem ev_loop {Γ : Fns} (n : Nat) (size more : Nat) (hs : Pw size) (Kc : Fl -> List AV -> St -> Prop) : ∀ (m : Nat) (σ : St) (P : List UInt8), padN P.length size more <= m -> σ.pile = toI P -> P.length + more + m <= 900000 ->
    Kc .next [.pile, .int size, .int more] (σ.uPile (toI (al size more P))) -> gD (wp Γ (n + 20)) evTest evBody (m + 1) [.pile, .int size, .int more] σ Kc := by
  intro m
  have hpos := hs.pos
  induction m with
  | zero =>
    intro σ P hm hp hl hK
    have hlen : σ.pile.length = P.length := by rw [hp, aQ]
    refine And.intro (by (rw [hlen]; lia)) ?_
    refine And.intro (by (have q1 := hpos.1; clear hpos; (exact Int.ofNat_lt.mpr (by assumption)))) ?_
    refine ⟨fun hc => ?_, fun hc => ev_end hs hp hc hK⟩
    have := padN_step hs (ev_go hp hc)
    lia
  | succ m ih =>
    intro σ P hm hp hl hK
    have hlen : σ.pile.length = P.length := by rw [hp, aQ]
    refine And.intro (by (rw [hlen]; lia)) ?_
    refine And.intro (by (have q1 := hpos.1; clear hpos; lia)) ?_
    refine ⟨fun hc => ?_, fun hc => ev_end hs hp hc hK⟩
    have hc' := ev_go hp hc
    have := padN_step hs hc'
    refine And.intro (by decide) ?_
    refine And.intro (by show 1 + σ.pile.length <= _; (rw [hlen]; lia)) ?_
    refine And.intro (rfl) ?_
    conv => whnf
    refine ih (σ.uPile ([0] ++ σ.pile)) (0 :: P) (by rw [List.length_cons]; (generalize padN (P.length + 1) size more = z0 at this ⊢; generalize padN P.length size more = z1 at hm this; lia)) (by show [0] ++ σ.pile = _; rw [hp]; rfl) (by rw [List.length_cons]; lia) ?_
    rw [<- al_step hs hc']
    exact hK
noncomputable def SEven (S : Fn) : Prop := ∀ σ K (P : List UInt8) (size more : Nat), σ.pile = toI P -> Pw size -> P.length + more <= 19000 -> K .none ((σ.uPmax (max σ.pmax size)).uPile (toI (al size more P))) -> S [.pile, .int size, .int more] σ K
theorem even_ok {Γ : Fns} : SEven (aR Γ fuel mF 3 [] 0) := by
  intro σ K P size more hp hs hl hK
  have hpl := padN_lt (len := P.length) (more := more) hs.pos.1
  have := hs.pos
  refine ⟨rfl, ?_⟩
  refine And.intro (rfl) ?_
  refine Exists.intro (padN P.length size more + 1) ?_
  exact ev_loop _ size more hs _ _ (σ.uPmax (max σ.pmax size)) P (Nat.le_refl _) hp (by (have q1 := this.2; clear this; lia)) hK
noncomputable def addElt : IE := .bin .mod (.bin .fdiv (.loc 1) (.bin .pow (.lit (.int 256)) (.loc 3))) (.lit (.int 256))
theorem pow_ok {k : Nat} (h : k <= 8) : (0 : Int) < 256 ^ k /\ (256 : Int) ^ k < 2 ^ 70 := by
  have : k = 0 \/ k = 1 \/ k = 2 \/ k = 3 \/ k = 4 \/ k = 5 \/ k = 6 \/ k = 7 \/ k = 8 := by lia
  rcases this with h | h | h | h | h | h | h | h | h <;> subst h <;> decide
theorem add_comp {Γ : Fns} (n : Nat) (x w a : AV) (i : Int) (Kc : List AV -> St -> Prop) (σ : St) : ∀ (ks : List Nat) (acc : List AV), (∀ k ∈ ks, k <= 8) -> Kc (acc ++ ks.map fun (k : Nat) => .int (i / 256 ^ k % 256)) σ ->
    kT ((wp Γ (n + 20)).e addElt) 3 [a, .int i, w, x] (ks.map fun (k : Nat) => (k : Int)) σ acc Kc
  | [], acc, _, h => by rw [List.map_nil, List.append_nil] at h; exact h
  | k :: ks, acc, hk, h => by
    have hp := pow_ok (hk k (List.mem_cons_self ..))
    have hk8 := hk k (List.mem_cons_self ..)
    have e : ((k : Int)).toNat = k := by (exact Int.toNat_natCast _)
    refine And.intro (⟨by decide, by decide, by show 0 <= (k : Int); lia, by show (k : Int) <= 100; (exact Int.ofNat_le.mpr (by exact Nat.le_trans (by assumption) (Nat.le_add_left _ _)))⟩) ?_
    rw [e]
    refine ⟨hp, ?_⟩
    refine And.intro (by decide) ?_
    refine add_comp n x w a i Kc σ ks _ (fun q hq => hk q (List.mem_cons_of_mem _ hq)) ?_
    rw [List.append_assoc]
    exact h
theorem rangeL_zero (w : Nat) : jM 0 (w : Int) = (List.range w).map fun (k : Nat) => (k : Int) := by
  unfold jM
  have : ((w : Int) - 0).toNat = w := by (exact Int.toNat_natCast _)
  rw [this]
  exact List.map_congr_left fun k _ => by (exact Int.add_comm _ _)
noncomputable def SAdd (S : Fn) : Prop := ∀ σ K (P : List UInt8) (i : Int) (w : Nat), σ.pile = toI P -> w <= 8 -> P.length <= 19000 -> K .none (σ.uPile (toI (aF w i ++ P))) -> S [.pile, .int i, .int w] σ K
theorem add_ok {Γ : Fns} : SAdd (aR Γ fuel mX 3 [] 1) := by
  intro σ K P i w hp hw hl hK
  refine ⟨rfl, ?_⟩
  refine And.intro (⟨by lia, by (exact Int.ofNat_le.mpr (by exact Nat.le_trans (by assumption) (Nat.le_add_left _ _)))⟩) ?_
  rw [rangeL_zero]
  refine add_comp _ _ _ _ i _ σ _ _ (fun k hk => by have := List.mem_range.mp hk; lia) ?_
  have e : ((List.range w).map fun (k : Nat) => AV.int (i / 256 ^ k % 256)) = ((List.range w).map fun (k : Nat) => i / 256 ^ k % 256).map AV.int := by rw [List.map_map]; rfl
  rw [List.nil_append, List.nil_append, e, nJ, <- toI_le]
  conv => whnf
  rw [hp]
  refine ⟨by rw [aQ, aQ, aE]; lia, ?_⟩
  refine And.intro (rfl) ?_
  rw [bT] at hK
  exact hK
noncomputable def SNum (S : Fn) : Prop := ∀ σ K (P : List UInt8) (k : Nat) v, σ.pile = toI P -> k < 9 -> Val k v -> P.length <= 18000 -> K .none ((σ.uPmax (max σ.pmax (bD (cOf k) : Nat))).uPile (toI (aF (bD (cOf k)) (valInt v) ++ al (bD (cOf k)) 0 P))) -> S [.pile, .int k, v] σ K
theorem num_ok {Γ : Fns} (hk : SKinds (Γ 749)) (he : SEven (Γ 777)) (ha : SAdd (Γ 782)) : SNum (aR Γ fuel jP 3 [] 1) := by
  intro σ K P k v hp hk9 hv hl hK
  have main : ∀ (w : Nat) (K' : AV -> St -> Prop), Pw w -> w = bD (cOf k) -> (∀ σ', K .none σ' -> K' .none σ') -> Γ 777 [.pile, .int w, .int (0 : Nat)] σ fun _ AG => Γ 782 [.pile, .int (valInt v), .int w] AG K' := by
    intro w K' hw e hK'
    subst e
    have hal := bR (size := bD (cOf k)) (more := 0) (out := P) hw
    refine he σ _ P _ 0 hp hw (by exact Nat.le_trans (by assumption) (Nat.le_add_left _ _)) ?_
    refine ha _ _ (al _ 0 P) _ _ rfl ?_ (by lia) (hK' _ hK)
    rcases fS hk9 with e | e | e | e | e | e | e | e | e <;> subst e <;> decide
  rcases fS hk9 with e | e | e | e | e | e | e | e | e <;> subst e <;> rcases aY hv with ⟨i, rfl⟩ | ⟨b, rfl⟩ <;> refine ⟨rfl, ?_⟩
  all_goals
    refine hk σ _ ?_
    refine And.intro (⟨by decide, by decide, by decide⟩) ?_
    refine And.intro (⟨by decide, by decide, by decide⟩) ?_
    refine main (bD (cOf _)) _ (by simp [bD, cOf, fl, Pw]) rfl ?_
    exact fun _ q => q
end Fb
set_option genInjectivity false
set_option genCtorIdx false
set_option genSizeOf false
namespace Fb
noncomputable def KeyAt (t : Nat) (k : List Int) : Prop := (k.length = t + 2 /\ k.head? = some 4) \/ (k.length = t + 3 /\ k.head? = some 7)
structure Rst (σ : St) (t : Nat) : Prop where
  nested : σ.nested = false
  fin : σ.fin = false
  bi : 0 <= σ.bi
  script : σ.script.length <= 1000
  vts : σ.vts.length <= t /\ ∀ k ∈ σ.vts, ∃ t', t' < t /\ KeyAt t' k
theorem Rst.fr {σ σ' : St} {t : Nat} (h : Rst σ t) (F : Fr σ σ') : Rst σ' t := ⟨F.nested.trans h.nested, F.fin.trans h.fin, by rw [F.bi]; exact h.bi, by rw [F.script]; exact h.script, by rw [F.vts]; exact h.vts⟩
structure J (σ : St) (out : List UInt8) (t : Nat) : Prop where
  ok : ∃ sp, Ok σ sp out
  pile : σ.pile = toI out
  min : ∃ m : Nat, Pw m /\ σ.minalign = m /\ σ.pmax = m
  rst : Rst σ t
theorem Pw.max {a b : Nat} (h : Pw a) (h' : Pw b) : Pw (max a b) := by
  rcases Nat.le_total a b with q | q
  . rw [Nat.max_eq_right q]; exact h'
  . rw [Nat.max_eq_left q]; exact h
theorem minStep {σ : St} {a b : Int} {s : Nat} (h : ∃ m : Nat, Pw m /\ σ.minalign = m /\ σ.pmax = m) (hs : Pw s) (ha : a = max σ.minalign s) (hb : b = max σ.pmax s) : ∃ m : Nat, Pw m /\ a = m /\ b = m := by
  refine bcn fun nG => ?_; obtain ⟨m, h1, h2, h3⟩ := h
  refine nG ?_; exact ⟨max m s, h1.max hs, by rw [ha, h2]; (clear h3 h2; (exact lE _ _)), by rw [hb, h3]; (exact lE _ _)⟩
theorem J.bi {σ : St} {out : List UInt8} {t : Nat} (h : J σ out t) {j : Int} (hj : 0 <= j) : J (σ.uBi j) out t :=
  ⟨let ⟨sp, o⟩ := h.ok; ⟨sp, o.of rfl rfl⟩, h.pile, h.min, ⟨h.rst.nested, h.rst.fin, hj, h.rst.script, h.rst.vts⟩⟩
noncomputable def SLWay (S : Fn) : Prop := ∀ σ K out t, J σ out t -> out.length <= 15000 -> (∀ σ' out', J σ' out' t -> out'.length <= out.length + 100 -> K .none σ') -> S [.bld, .pile, .box] σ K
theorem lway_ok {Γ : Fns} (ht : STake (Γ 756)) (hv : SPreX 220 (Γ 697)) (hn : SNum (Γ 789)) (hs : SWay (Γ 420)) (hu : SWay (Γ 427)) (he : SEven (Γ 777)) (ha : SAdd (Γ 782)) : SLWay (aR Γ fuel nM 3 [] 2) := by
  intro σ K out t h ho hK
  have hpl : σ.pile.length = out.length := by rw [h.pile, aQ]
  have hsc := h.rst.script
  refine ⟨rfl, ?_⟩
  refine And.intro (by (rw [hpl]; lia)) ?_
  refine ht σ _ _ h.rst.bi (by exact Nat.le_trans (by assumption) (Nat.le_add_left _ _)) (by (clear ho; simp)) ?_
  intro to j hto hto' hj
  refine ht _ _ _ hj (by show σ.script.length <= _; lia) (by exact Int.natCast_nonneg _) ?_
  intro pick j' hp hp' hj'
  have h' : J (σ.uBi j') out t := h.bi hj'
  obtain ⟨sp, o⟩ := h'.ok
  have hal := bR (size := 4) (more := 0) (out := out) pw4
  have hal2 := bR (size := 2) (more := 0) (out := out) pw2
  refine bC (fun fr AG => fr = [.bld, .pile, .box, .int to, .int pick] /\ (σ.uBi j') = AG) ?_ ?_
  . intro R hR hret
    refine And.intro (fun hc => ?_) (fun hc => ?_)
    . skip
      refine And.intro (by decide) ?_
      have e1 : 0 <= to % 65536 := by (clear hto' hto; (exact Int.emod_nonneg _ (by decide)))
      have e2 : to % 65536 <= 65535 := by (clear hto' hto; lia)
      refine hv (.int (to % 65536)) _ _ _ sp out (enc220 e1 e2) o (by exact Nat.le_trans (by assumption) (Nat.le_add_left _ _)) ?_
      intro AG spG FG mG cG oG
      refine And.intro (by decide) ?_
      refine hn AG _ out 2 (.int (to % 65536)) (FG.pile.trans h.pile) (by exact Nat.le_add_left _ _) (val_int rfl e1 e2) (by exact Nat.le_trans (by assumption) (Nat.le_add_left _ _)) ?_
      refine hret _ _ _ ?_
      refine hK _ _ ⟨⟨spG, oG.of rfl rfl⟩, rfl, ?_, ?_⟩ ?_
      . exact minStep h'.min pw2 mG (by show max AG.pmax _ = _; rw [FG.pmax]; rfl)
      . have RG := h'.rst.fr FG; exact ⟨RG.1, RG.2, RG.3, RG.4, RG.5⟩
      . rw [List.length_append, aE]; show 2 + (al 2 0 out).length <= _; (have q1 := hal2.1; clear hal2; lia)
    . exact hR _ _ ⟨rfl, rfl⟩
  rintro fr AG ⟨rfl, rfl⟩
  refine bC (fun fr AG => fr = [.bld, .pile, .box, .int to, .int pick] /\ Fr (σ.uBi j') AG /\ AG.minalign = max σ.minalign (4 : Nat) /\ ∃ sp, Ok AG sp (bM to (al 4 0 out) ++ al 4 0 out)) ?_ ?_
  . intro R hR _
    refine And.intro (fun hc => ?_) (fun hc => ?_)
    . skip
      refine hs to _ _ sp out hto (by lia) o (by lia) ?_
      intro AG spG FG mG cG oG
      exact hR _ _ ⟨rfl, FG, mG, spG, oG⟩
    . skip
      refine hu to _ _ sp out hto (by lia) o (by lia) ?_
      intro AG spG FG mG cG oG
      exact hR _ _ ⟨rfl, FG, mG, spG, oG⟩
  rintro fr AG ⟨rfl, FG, mG, spG, oG⟩
  have hpG : AG.pile = toI out := FG.pile.trans h.pile
  refine he AG _ out 4 0 hpG pw4 (by exact Nat.le_trans (by assumption) (Nat.le_add_left _ _)) ?_
  refine And.intro (by show (toI _).length <= _; rw [aQ]; (have q1 := hal.1; clear hal; (exact Nat.le_trans (by assumption) (by lia)))) ?_
  refine ha _ _ (al 4 0 out) _ 4 rfl (by lia) (by (have q1 := hal.1; clear hal; (exact Nat.le_trans (by assumption) (by lia)))) ?_
  have e : ((toI (al 4 0 out)).length : Int) = (al 4 0 out).length := by rw [aQ]
  refine hK _ (bM to (al 4 0 out) ++ al 4 0 out) ⟨⟨spG, oG.of rfl rfl⟩, ?_, ?_, ?_⟩ ?_
  . show toI (aF 4 (((toI (al 4 0 out)).length : Int) - to + 4) ++ _) = _
    rw [e]; rfl
  . exact minStep h'.min pw4 mG (by show max AG.pmax _ = _; rw [FG.pmax])
  . have RG := h'.rst.fr FG; exact ⟨RG.1, RG.2, RG.3, RG.4, RG.5⟩
  . rw [List.length_append]; unfold bM; rw [aE]; lia
end Fb
namespace Fb
noncomputable def octElt : IE := .bin .add (.lit (.int 97)) (.call 32 [(.loc 2), (.lit (.int 26))])
theorem oct_comp {Γ : Fns} (ht : STake (Γ 756)) (n : Nat) (a3 a4 a5 : AV) (Kc : List AV -> St -> Prop) : ∀ (ks : List Int) (σ : St) (acc : List AV), 0 <= σ.bi -> σ.script.length <= 1000 ->
    (∀ (l : List Int) j, l.length = ks.length -> (∀ x ∈ l, 97 <= x /\ x <= 122) -> 0 <= j -> Kc (acc ++ l.map .int) (σ.uBi j)) ->
    kT ((wp Γ (n + 20)).e octElt) 4 [.bld, .pile, .box, a3, a4, a5] ks σ acc Kc
  | [], σ, acc, hb, hs, hK => by
    have := hK [] σ.bi rfl (fun _ q => nomatch q) hb
    rw [List.map_nil, List.append_nil] at this
    exact this
  | k :: ks, σ, acc, hb, hs, hK => by
    refine ht σ _ _ hb (by exact Nat.le_trans (by assumption) (Nat.le_add_left _ _)) (by decide) ?_
    intro r j hr hr' hj
    refine oct_comp ht n a3 a4 a5 Kc ks (σ.uBi j) _ hj hs ?_
    intro l j' hl hx hj'
    have := hK ((97 + r) :: l) j' (by rw [List.length_cons, List.length_cons, hl]) (fun x hx' => by
      rcases List.mem_cons.mp hx' with q | q
      . subst q; (clear hx'; (exact ⟨by (exact Int.le_add_of_nonneg_right (by assumption)), by lia⟩))
      . exact hx x q) hj'
    rw [List.map_cons] at this
    rw [List.append_assoc]
    exact this
noncomputable def toB (l : List Int) : List UInt8 := l.map fun x => UInt8.ofNat x.toNat
theorem toI_toB : ∀ {l : List Int}, (∀ x ∈ l, 0 <= x /\ x < 256) -> toI (toB l) = l
  | [], _ => rfl
  | x :: xs, h => by
    show ((UInt8.ofNat x.toNat).toNat : Int) :: toI (toB xs) = _
    have hx := h x (List.mem_cons_self ..)
    rw [toI_toB fun y hy => h y (List.mem_cons_of_mem _ hy)]
    congr 1
    rw [UInt8.toNat_ofNat', Int.natCast_emod, Int.toNat_of_nonneg hx.1]; exact Int.emod_eq_of_lt hx.1 hx.2
theorem toB_len (l : List Int) : (toB l).length = l.length := List.length_map _
noncomputable def SLOct (S : Fn) : Prop := ∀ σ K out t, J σ out t -> out.length <= 15000 -> (∀ σ' out', J σ' out' t -> out'.length <= out.length + 100 -> K (.bool true) σ') -> S [.bld, .pile, .box] σ K
theorem loct_ok {Γ : Fns} (ht : STake (Γ 756)) (hc : SCreate [0] (Γ 456)) (hv : SCreate [] (Γ 463)) (he : SEven (Γ 777)) (ha : SAdd (Γ 782)) : SLOct (aR Γ fuel iX 3 [] 3) := by
  intro σ K out t h ho hK
  have hpl : σ.pile.length = out.length := by rw [h.pile, aQ]
  have hsc := h.rst.script
  refine ⟨rfl, ?_⟩
  refine ht σ _ _ h.rst.bi (by exact Nat.le_trans (by assumption) (Nat.le_add_left _ _)) (by decide) ?_
  intro r j hr hr' hj
  refine And.intro (by exact ⟨by assumption, by lia⟩) ?_
  refine oct_comp ht _ _ _ _ _ _ (σ.uBi j) _ hj hsc ?_
  intro l j' hl hx hj'
  rw [List.nil_append, List.nil_append, nJ]
  have hll : l.length <= 5 := by
    rw [hl]; unfold jM; rw [List.length_map, List.length_range]; (exact Int.toNat_le.mpr (by lia))
  have hx' : ∀ x ∈ l, 0 <= x /\ x < 256 := fun x q => by have := hx x q; (exact ⟨by lia, by (have q1 := this.2; clear this; lia)⟩)
  have h' : J (σ.uBi j') out t := h.bi hj'
  generalize hB : toB l = B
  have hBl : B.length = l.length := by rw [<- hB, toB_len]
  have hBi : toI B = l := by rw [<- hB]; exact toI_toB hx'
  refine bC (fun fr AG => ∃ (out' : List UInt8) (z : List UInt8), z.length <= 1 /\ out' = B ++ (z ++ al 4 (B.length + z.length) out) /\ fr = [.bld, .pile, .box, .ints l, .unb, .int (aF 4 B.length ++ out').length] /\ AG.pile = toI out' /\ (∃ sp, Ok AG sp (aF 4 B.length ++ out')) /\ (∃ m : Nat, Pw m /\ AG.minalign = m /\ AG.pmax = m) /\ Rst AG t) ?_ ?_
  . intro R hR _
    refine ht _ _ _ hj' (by show σ.script.length <= _; lia) (by decide) ?_
    intro c jG _ _ hjG
    have hH : J (σ.uBi jG) out t := h.bi hjG
    obtain ⟨sp, o⟩ := hH.ok
    refine ⟨fun _ => ?_, fun _ => ?_⟩
    . skip
      refine And.intro (⟨by (exact Nat.le_trans (by assumption) (Nat.le_add_left _ _)), hx'⟩) ?_
      show Γ 456 [.bld, .bytes (toB l)] (σ.uBi jG) _
      rw [hB]
      refine hc _ _ sp out B o hH.rst.nested (by (rw [hBl]; lia)) ho ?_
      intro AG spG FG mG oG
      have hal := bR (size := 4) (more := B.length + [(0 : UInt8)].length) (out := out) pw4
      refine And.intro (by exact Nat.le_trans (by assumption) (Nat.le_add_left _ _)) ?_
      conv => whnf
      have e : (l.length : Int) + 1 = ((B.length + [(0 : UInt8)].length : Nat) : Int) := by rw [hBl]; rfl
      rw [e]
      refine he AG _ out 4 _ (FG.pile.trans h.pile) pw4 (by show out.length + (B.length + 1) <= _; (rw [hBl]; lia)) ?_
      refine And.intro (by decide) ?_
      refine And.intro (by show l.length + 1 <= _; lia) ?_
      refine And.intro (by rw [List.length_append, aQ]; show l.length + 1 + _ <= _; lia) ?_
      refine And.intro (rfl) ?_
      refine hR _ _ ⟨B ++ ([0] ++ al 4 (B.length + [(0 : UInt8)].length) out), [0], by decide, rfl, rfl, ?_, ⟨spG, oG.of rfl rfl⟩, ?_, ?_⟩
      . show (l ++ [0]) ++ toI _ = _
        rw [bT, bT, hBi, List.append_assoc]; rfl
      . exact minStep hH.min pw4 mG (by show max AG.pmax _ = _; rw [FG.pmax])
      . exact ⟨FG.nested, FG.fin.trans hH.rst.fin, by show 0 <= AG.bi; rw [FG.bi]; exact hjG, by show AG.script.length <= _; rw [FG.script]; exact hsc, by show AG.vts.length <= t /\ ∀ k ∈ AG.vts, _; rw [FG.vts]; exact h.rst.vts⟩
    . skip
      refine And.intro (⟨by lia, hx'⟩) ?_
      show Γ 463 [.bld, .bytes (toB l)] (σ.uBi jG) _
      rw [hB]
      refine hv _ _ sp out B o hH.rst.nested (by lia) ho ?_
      intro AG spG FG mG oG
      have hal := bR (size := 4) (more := B.length + ([] : List UInt8).length) (out := out) pw4
      refine And.intro (by lia) ?_
      conv => whnf
      have e : (l.length : Int) = ((B.length + ([] : List UInt8).length : Nat) : Int) := by rw [hBl]; rfl
      rw [show (Γ 777 [.pile, .int 4, .int (l.length : Int)]) = Γ 777 [.pile, .int 4, .int ((B.length + ([] : List UInt8).length : Nat) : Int)] by rw [e]]
      refine he AG _ out 4 _ (FG.pile.trans h.pile) pw4 (by show out.length + (B.length + 0) <= _; (rw [hBl]; lia)) ?_
      refine And.intro (by rw [aQ]; show l.length + _ <= _; lia) ?_
      refine And.intro (rfl) ?_
      refine hR _ _ ⟨B ++ ([] ++ al 4 (B.length + ([] : List UInt8).length) out), [], by decide, rfl, rfl, ?_, ⟨spG, oG.of rfl rfl⟩, ?_, ?_⟩
      . show l ++ toI _ = _
        rw [bT, bT, hBi]; rfl
      . exact minStep hH.min pw4 mG (by show max AG.pmax _ = _; rw [FG.pmax])
      . exact ⟨FG.nested, FG.fin.trans hH.rst.fin, by show 0 <= AG.bi; rw [FG.bi]; exact hjG, by show AG.script.length <= _; rw [FG.script]; exact hsc, by show AG.vts.length <= t /\ ∀ k ∈ AG.vts, _; rw [FG.vts]; exact h.rst.vts⟩
  rintro fr AG ⟨out', z, hz, hout', rfl, hpG, ⟨spG, oG⟩, hmG, hrG⟩
  have hal := bR (size := 4) (more := B.length + z.length) (out := out) pw4
  have hol : out'.length <= out.length + 30 := by rw [hout', List.length_append, List.length_append]; lia
  refine And.intro (by lia) ?_
  refine ha AG _ out' (l.length : Int) 4 hpG (by exact Nat.le_add_left _ _) (by exact Nat.le_trans (by assumption) (by lia)) ?_
  refine And.intro (by show (toI _).length <= _; rw [aQ, List.length_append, aE]; lia) ?_
  conv => whnf
  have e : (((aF 4 (B.length : Int) ++ out').length : Int) == ((toI (aF 4 (l.length : Int) ++ out')).length : Int)) = true := by
    rw [aQ, hBl]; exact beq_self_eq_true _
  rw [e]
  refine hK _ (aF 4 (B.length : Int) ++ out') ⟨⟨spG, oG.of rfl rfl⟩, by show toI _ = _; rw [hBl], hmG, ⟨hrG.1, hrG.2, hrG.3, hrG.4, hrG.5⟩⟩ ?_
  rw [List.length_append, aE]; lia
end Fb
namespace Fb
noncomputable def rowElt : IE := .call 33 [(.loc 2), (.loc 3)]
theorem row_comp {Γ : Fns} (hv : SValue (Γ 763)) (n : Nat) (k : Nat) (hk : k < 9) (a4 a5 a6 a7 a8 a9 a10 a11 : AV) (Kc : List AV -> St -> Prop) : ∀ (ks : List Int) (σ : St) (acc : List AV), 0 <= σ.bi -> σ.script.length <= 1000 ->
    (∀ (l : List AV) j, l.length = ks.length -> (∀ x ∈ l, Val k x) -> 0 <= j -> Kc (acc ++ l) (σ.uBi j)) ->
    kT ((wp Γ (n + 20)).e rowElt) 6 [.bld, .pile, .box, .int k, a4, a5, a6, a7, a8, a9, a10, a11] ks σ acc Kc
  | [], σ, acc, hb, hs, hK => by
    have := hK [] σ.bi rfl (fun _ q => nomatch q) hb
    rw [List.append_nil] at this
    exact this
  | i :: ks, σ, acc, hb, hs, hK => by
    refine hv σ _ k hk hb (by exact Nat.le_trans (by assumption) (Nat.le_add_left _ _)) ?_
    intro v j hval hj
    refine row_comp hv n k hk a4 a5 a6 a7 a8 a9 a10 a11 Kc ks (σ.uBi j) _ hj hs ?_
    intro l j' hl hx hj'
    have := hK (v :: l) j' (by rw [List.length_cons, List.length_cons, hl]) (fun x hx' => by
      rcases List.mem_cons.mp hx' with q | q
      . subst q; exact hval
      . exact hx x q) hj'
    rw [List.append_assoc]
    exact this
theorem width_le (k : Nat) (h : k < 9) : bD (cOf k) <= 8 /\ Pw (bD (cOf k)) := by
  rcases fS h with e | e | e | e | e | e | e | e | e <;> subst e <;> simp [bD, cOf, fl, Pw]
theorem al_mod {size more : Nat} (out : List UInt8) (h : Pw size) : ((al size more out).length + more) % size = 0 := by
  rw [kV, Nat.add_assoc, Nat.add_comm]; exact pad_mod h.pos.1
theorem pw_dvd {w size : Nat} (h : Pw w) (h' : Pw size) (le : w <= size) : w ∣ size := by
  rcases h with h | h | h | h | h <;> rcases h' with h' | h' | h' | h' | h' <;> subst h <;> subst h' <;> first | lia | decide
noncomputable def rowBody : List IS := [.expr (.call 34 [(.loc 0), (.loc 3), (.loc 10)]), .expr (.call 37 [(.loc 1), (.loc 3), (.loc 10)])]
theorem row_for {Γ : Fns} (hp : SLPre (Γ 770)) (hn : SNum (Γ 789)) (n : Nat) (k : Nat) (hk : k < 9) (a4 a5 a6 a7 a8 a9 a11 : AV) (q : Option (Option Int)) (Kc : Fl -> List AV -> St -> Prop) : ∀ (vs : List AV) (σ : St) (sp : Nat) (o : List UInt8) (a10 : AV) (t : Nat), (∀ v ∈ vs, Val k v) -> Ok σ sp o -> σ.pile = toI o -> o.length % bD (cOf k) = 0 -> 4 + bD (cOf k) * vs.length <= sp -> o.length + 8 * vs.length <= 17000 -> (∃ m : Nat, Pw m /\ σ.minalign = m /\ σ.pmax = m) -> σ.nested = true -> σ.vne = q -> σ.fin = false -> 0 <= σ.bi -> σ.script.length <= 1000 -> (σ.vts.length <= t /\ ∀ k ∈ σ.vts, ∃ t', t' < t /\ KeyAt t' k) ->
    (∀ σ' sp' o' e, Ok σ' sp' o' -> σ'.pile = toI o' -> 4 <= sp' -> o'.length <= o.length + 8 * vs.length -> (∃ m : Nat, Pw m /\ σ'.minalign = m /\ σ'.pmax = m) -> σ'.nested = true -> σ'.vne = q -> σ'.fin = false -> 0 <= σ'.bi -> σ'.script.length <= 1000 -> (σ'.vts.length <= t /\ ∀ k ∈ σ'.vts, ∃ t', t' < t /\ KeyAt t' k) -> Kc .next [.bld, .pile, .box, .int k, a4, a5, a6, a7, a8, a9, e, a11] σ') ->
    nO (wp Γ (n + 20)) 10 rowBody vs [.bld, .pile, .box, .int k, a4, a5, a6, a7, a8, a9, a10, a11] σ Kc
  | [], σ, sp, o, a10, t, hv, h, hpi, hmod, hsp, hl, hm, hne, hq, hf, hb, hs, hvt, hK => hK σ sp o a10 h hpi (by assumption) (by exact Nat.le_refl _) hm hne hq hf hb hs hvt
  | v :: vs, σ, sp, o, a10, t, hv, h, hpi, hmod, hsp, hl, hm, hne, hq, hf, hb, hs, hvt, hK => by
    have hval := hv v (List.mem_cons_self ..)
    have hw := width_le k hk
    rw [List.length_cons] at hsp hl
    have hsp' : 4 + (bD (cOf k) * vs.length + bD (cOf k)) <= sp := by rw [<- Nat.mul_succ]; exact hsp
    have e0 : al (bD (cOf k)) 0 o = o := oM hmod
    rcases aY hval with ⟨i, rfl⟩ | ⟨b, rfl⟩
    all_goals
      refine hp k _ σ _ sp o hk hval h (by lia) ?_
      intro AG spG FG mG cG oG
      rw [e0] at cG oG
      rw [List.length_append, aE] at cG
      refine hn AG _ o k _ (FG.pile.trans hpi) hk hval (by lia) ?_
      rw [e0]
      refine row_for hp hn n k hk a4 a5 a6 a7 a8 a9 a11 q Kc vs _ spG _ _ t (fun x hx => hv x (List.mem_cons_of_mem _ hx)) (oG.of rfl rfl) rfl ?_ (by lia) ?_ ?_ (FG.nested.trans hne) (FG.vne.trans hq) (FG.fin.trans hf) ?_ ?_ ?_ ?_
      . rw [List.length_append, aE, Nat.add_mod_left]; exact hmod
      . rw [List.length_append, aE]; lia
      . exact minStep hm hw.2 mG (by show max AG.pmax _ = _; rw [FG.pmax])
      . show 0 <= AG.bi; rw [FG.bi]; exact hb
      . show AG.script.length <= _; rw [FG.script]; exact hs
      . show AG.vts.length <= t /\ ∀ k ∈ AG.vts, _; rw [FG.vts]; exact hvt
      intro σ' sp' o' e h1 h2 h3 h4
      exact hK σ' sp' o' e h1 h2 h3 (by rw [List.length_append, aE] at h4; rw [List.length_cons]; lia)
end Fb
namespace Fb
set_option tactic.hygienic true in
theorem allInts_some : ∀ {vs : List AV} {l : List Int}, dE vs = some l -> vs = l.map .int
  | [], l, h => by (have e9 := Option.some.inj h; clear h; subst e9); rfl
  | v :: vs, l, h => by
    induction v using AV.casesOn <;> first | (exact absurd (show (none : Option (List Int)) = some l from h) (fun q => nomatch q)) | skip
    rename_i i
    have h' : (match dE vs with | some l => some (i :: l) | none => none) = some l := h
    split at h'
    . rename_i l' hl
      (have e9 := Option.some.inj h'; clear h'; subst e9)
      rw [allInts_some hl]; rfl
    . exact nn h'
theorem mkList_cases (vs : List AV) : (∃ l : List Int, cC vs = .ints l /\ vs = l.map .int) \/ cC vs = .lst vs := by
  unfold cC
  induction h : dE vs using Option.casesOn with
  | some l => exact .inl ⟨l, rfl, allInts_some h⟩
  | none => exact .inr rfl
theorem mx {x y a b : Int} {s : Nat} (h : ∃ m : Nat, Pw m /\ x = m /\ y = m) (hs : Pw s) (ha : a = max x s) (hb : b = max y s) : ∃ m : Nat, Pw m /\ a = m /\ b = m := by
  refine bcn fun nG => ?_; obtain ⟨m, h1, h2, h3⟩ := h
  refine nG ?_; exact ⟨max m s, h1.max hs, by rw [ha, h2]; (clear h3 h2; (exact lE _ _)), by rw [hb, h3]; (exact lE _ _)⟩
noncomputable def SLRow (S : Fn) : Prop := ∀ σ K out t, J σ out t -> out.length <= 14000 -> (∀ σ' out', J σ' out' t -> out'.length <= out.length + 200 -> K (.bool true) σ') -> S [.bld, .pile, .box] σ K
theorem lrow_ok {Γ : Fns} (ht : STake (Γ 756)) (hk : SKinds (Γ 749)) (hv : SValue (Γ 763)) (hst : SStart (Γ 434)) (he : SEven (Γ 777)) (hp : SLPre (Γ 770)) (hn : SNum (Γ 789)) (hen : SEnd (Γ 442)) (ha : SAdd (Γ 782)) : SLRow (aR Γ fuel nR 3 [] 9) := by
  intro σ K out t h ho hK
  have hsc := h.rst.script
  refine ⟨rfl, ?_⟩
  refine ht σ _ _ h.rst.bi (by exact Nat.le_trans (by assumption) (Nat.le_add_left _ _)) (by decide) ?_
  intro r j hr hr' hj
  obtain ⟨k, rfl⟩ : ∃ k : Nat, r = k := ⟨r.toNat, by (exact (Int.toNat_of_nonneg (by assumption)).symm)⟩
  have hk9 : k < 9 := by (exact Int.ofNat_lt.mp (by assumption))
  have hw := width_le k hk9
  refine bC (fun fr AG => fr = [.bld, .pile, .box, .int k, .int (bD (cOf k) : Nat), .unb, .unb, .unb, .unb, .unb, .unb, .unb] /\ (σ.uBi j) = AG) ?_ ?_
  . intro R hR _
    rcases fS hk9 with e | e | e | e | e | e | e | e | e <;> subst e
    all_goals
      refine hk _ _ ?_
      refine And.intro (⟨by decide, by decide, by decide⟩) ?_
      refine And.intro (⟨by decide, by decide, by decide⟩) ?_
      exact hR _ _ ⟨rfl, rfl⟩
  rintro fr AG ⟨rfl, rfl⟩
  refine ht _ _ _ hj (by show σ.script.length <= _; (exact Nat.le_trans (by assumption) (Nat.le_add_left _ _))) (by decide) ?_
  intro c jJ hc hc' hjH
  refine And.intro (by exact ⟨by assumption, by lia⟩) ?_
  refine row_comp hv _ k hk9 _ _ _ _ _ _ _ _ _ _ _ _ hjH hsc ?_
  intro vs jG hvl hvs hjG
  rw [List.nil_append]
  have hvl' : vs.length <= 3 := by
    rw [hvl]; unfold jM; rw [List.length_map, List.length_range]; (exact Int.toNat_le.mpr (by lia))
  generalize hwk : bD (cOf k) = wk at *
  refine bC (fun fr AG => ∃ s : Nat, ∃ jH : Int, 0 <= jH /\ (s = wk \/ s = 4 \/ s = 16) /\ fr = [.bld, .pile, .box, .int k, .int (wk : Nat), cC vs, .unb, .int s, .unb, .unb, .unb, .unb] /\ (σ.uBi jH) = AG) ?_ ?_
  . intro R hR _
    refine And.intro (Nat.le_of_ble_eq_true rfl) ?_
    refine ht _ _ _ hjG (by show σ.script.length <= _; lia) (by decide) ?_
    intro s jH hs hs' hjJ
    have h3 : s = 0 \/ s = 1 \/ s = 2 := by lia
    refine ⟨⟨by assumption, by show s < 3; assumption, Nat.le_of_ble_eq_true rfl⟩, ?_⟩
    rcases h3 with q | q | q <;> subst q
    . exact hR _ _ ⟨wk, jH, hjJ, .inl rfl, rfl, rfl⟩
    . exact hR _ _ ⟨4, jH, hjJ, .inr (.inl rfl), rfl, rfl⟩
    . exact hR _ _ ⟨16, jH, hjJ, .inr (.inr rfl), rfl, rfl⟩
  rintro fr AG ⟨s, jH, hjJ, hs, rfl, rfl⟩
  refine bC (fun fr AG => ∃ s : Nat, Pw s /\ wk <= s /\ fr = [.bld, .pile, .box, .int k, .int (wk : Nat), cC vs, .unb, .int s, .unb, .unb, .unb, .unb] /\ (σ.uBi jH) = AG) ?_ ?_
  . intro R hR _
    have hsp : Pw s := by
      rcases hs with q | q | q <;> subst q
      . exact hw.2
      . exact pw4
      . unfold Pw; decide
    refine And.intro (fun hc => ?_) (fun hc => ?_)
    . exact hR _ _ ⟨wk, hw.2, Nat.le_refl _, rfl, rfl⟩
    . have hc := of_decide_eq_false hc
      exact hR _ _ ⟨s, hsp, by lia, rfl, rfl⟩
  clear hs s
  rintro fr AG ⟨s, hs, hws, rfl, rfl⟩
  have h' : J (σ.uBi jH) out t := h.bi hjJ
  have hspos := hs.pos
  obtain ⟨sp, o⟩ := h'.ok
  have hwn : wk * vs.length <= 8 * 3 := Nat.mul_le_mul hw.1 hvl'
  have hal := bR (size := 4) (more := wk * vs.length) (out := out) pw4
  have hal2 := bR (size := s) (more := wk * vs.length) (out := al 4 (wk * vs.length) out) hs
  have hmod : (al s (wk * vs.length) (al 4 (wk * vs.length) out)).length % wk = 0 := by
    have h1 := al_mod (more := wk * vs.length) (al 4 (wk * vs.length) out) hs
    have h2 : wk ∣ (al s (wk * vs.length) (al 4 (wk * vs.length) out)).length + wk * vs.length := Nat.dvd_trans (pw_dvd hw.2 hs hws) (Nat.dvd_of_mod_eq_zero h1)
    exact Nat.mod_eq_zero_of_dvd ((Nat.dvd_add_left (Nat.dvd_mul_right _ _)).mp h2)
  generalize hA : al s (wk * vs.length) (al 4 (wk * vs.length) out) = A at *
  have hroom : s < 4 -> A.length = (al 4 (wk * vs.length) out).length := by
    intro q
    rw [<- hA, kV]
    have h1 := al_mod (more := wk * vs.length) out pw4
    have h2 : ((al 4 (wk * vs.length) out).length + wk * vs.length) % s = 0 := Nat.mod_eq_zero_of_dvd (Nat.dvd_trans (pw_dvd hs pw4 (by exact Nat.le_of_lt (by assumption))) (Nat.dvd_of_mod_eq_zero h1))
    rw [oE h2]; (exact Nat.add_comm _ _)
  have emul : (wk : Int) * (vs.length : Int) = ((wk * vs.length : Nat) : Int) := by rw [Int.natCast_mul]
  rcases mkList_cases vs with ⟨l, hl, hll⟩ | hl
  . have hll' : l.length = vs.length := by rw [hll, List.length_map]
    have erev : l.reverse.map AV.int = vs.reverse := by rw [hll, List.map_reverse]
    rw [hl]
    refine And.intro (by (rw [hll']; lia)) ?_
    rw [hll']
    refine hst _ _ sp out wk vs.length s o h'.rst.nested hs hw.1 (by exact Nat.le_trans (by assumption) (Nat.le_add_left _ _)) (by exact Nat.le_trans (by assumption) (Nat.le_add_left _ _)) ?_
    rw [hA]
    intro AG spG FG mG rG cG oG
    refine And.intro (by lia) ?_
    refine And.intro (by exact ⟨n40 (by (have q1 := hw.1; clear hw; lia)), n40 (by lia)⟩) ?_
    rw [hll', emul]
    refine he AG _ out 4 _ (FG.pile.trans h.pile) pw4 (by lia) ?_
    refine And.intro (by lia) ?_
    refine And.intro (by exact ⟨n40 (by lia), n40 (by lia)⟩) ?_
    rw [hll', emul]
    refine he _ _ (al 4 (wk * vs.length) out) s _ rfl hs (by lia) ?_
    rw [hA]
    refine And.intro (by rw [aQ]; (have q1 := hal.1; have q2 := hal2.1; clear hal hal2; (generalize A.length = z0 at q2 ⊢; generalize out.length = z1 at ho q1; generalize (al 4 (wk * vs.length) out).length = z2 at q1 q2; lia))) ?_
    refine And.intro (by lia) ?_
    conv => whnf
    rw [erev]
    refine ⟨by rw [List.length_reverse]; (exact Nat.le_trans (by assumption) (Nat.le_add_left _ _)), ?_⟩
    refine row_for hp hn _ k hk9 _ _ _ _ _ _ _ (some (some (vs.length : Int))) _ vs.reverse _ spG A _ t ?_ (oG.of rfl rfl) rfl (by rw [hwk]; exact hmod) ?_ ?_ ?_ FG.nested FG.vne (FG.fin.trans h'.rst.fin) ?_ ?_ ?_ ?_
    . intro v q; exact hvs v (List.mem_reverse.mp q)
    . rw [hwk, List.length_reverse]
      rcases Nat.lt_or_ge s 4 with q | q
      . have := hroom q; (clear q; (generalize vs.length = z0 at cG this ⊢; generalize (al 4 (wk * vs.length) out).length = z1 at cG this; generalize A.length = z2 at cG this; lia))
      . (generalize vs.length = z0 at rG ⊢; lia)
    . rw [List.length_reverse]; (generalize A.length = z0 at hal2 ⊢; generalize vs.length = z1 at hvl' hal hal2 ⊢; generalize out.length = z2 at ho hal; generalize (al 4 (wk * vs.length) out).length = z3 at hal hal2; (have q1 := hal2.1; have q2 := hal.1; clear hal2 hal; lia))
    . refine mx (mx h'.min pw4 rfl rfl) hs mG ?_
      show max (max AG.pmax _) _ = _
      rw [FG.pmax]
    . show 0 <= AG.bi; rw [FG.bi]; exact hjJ
    . show AG.script.length <= _; rw [FG.script]; exact hsc
    . show AG.vts.length <= t /\ ∀ k ∈ AG.vts, _; rw [FG.vts]; exact h.rst.vts
    intro AH spH oH e h1 h2 h3 h4 h5 h6 h7 h8 h9 h10 h11
    rw [List.length_reverse] at h4
    refine hen AH _ spH oH vs.length h1 h6 h7 (by exact Nat.le_trans (by assumption) (Nat.le_add_left _ _)) h3 ?_
    intro AJ FJ mJ oJ
    refine And.intro (by lia) ?_
    rw [hll']
    refine ha AJ _ oH (vs.length : Int) 4 (FJ.pile.trans h2) (by lia) (by (generalize A.length = z0 at hal2 h4; (exact Nat.le_trans (by assumption) (by lia)))) ?_
    refine ifT ?_ ?_
    . show ((A.length : Int) == ((toI A).length : Int)) = true
      rw [aQ]; exact beq_self_eq_true _
    refine And.intro (by rw [aQ, List.length_append, aE]; (generalize A.length = z0 at hal2 h4; (have q1 := hal.1; have q2 := hal2.1; clear hal hal2; lia))) ?_
    conv => whnf
    have ee : (((aF 4 (vs.length : Int) ++ oH).length : Int) == ((toI (aF 4 (vs.length : Int) ++ oH)).length : Int)) = true := by
      rw [aQ]; exact beq_self_eq_true _
    rw [ee]
    refine hK _ (aF 4 (vs.length : Int) ++ oH) ⟨⟨_, oJ.of rfl rfl⟩, rfl, ?_, ?_⟩ ?_
    . obtain ⟨m, g1, g2, g3⟩ := h5
      exact ⟨m, g1, mJ.trans g2, FJ.pmax.trans g3⟩
    . exact ⟨FJ.nested, FJ.fin.trans h8, by show 0 <= AJ.bi; rw [FJ.bi]; exact h9, by show AJ.script.length <= _; rw [FJ.script]; exact h10, by show AJ.vts.length <= t /\ ∀ k ∈ AJ.vts, _; rw [FJ.vts]; exact h11⟩
    . rw [List.length_append, aE]; (generalize A.length = z0 at hal2 h4; (have q1 := hal.1; have q2 := hal2.1; clear hal hal2; lia))
  . skip
    rw [hl]
    refine And.intro (by exact Nat.le_trans (by assumption) (Nat.le_add_left _ _)) ?_
    refine hst _ _ sp out wk vs.length s o h'.rst.nested hs hw.1 (by lia) (by exact Nat.le_trans (by assumption) (Nat.le_add_left _ _)) ?_
    rw [hA]
    intro AG spG FG mG rG cG oG
    refine And.intro (by exact Nat.le_trans (by assumption) (Nat.le_add_left _ _)) ?_
    refine And.intro (by exact ⟨n40 (by lia), n40 (by lia)⟩) ?_
    rw [emul]
    refine he AG _ out 4 _ (FG.pile.trans h.pile) pw4 (by lia) ?_
    refine And.intro (by lia) ?_
    refine And.intro (by exact ⟨n40 (by lia), n40 (by lia)⟩) ?_
    rw [emul]
    refine he _ _ (al 4 (wk * vs.length) out) s _ rfl hs (by lia) ?_
    rw [hA]
    refine And.intro (by rw [aQ]; (have q1 := hal.1; have q2 := hal2.1; clear hal hal2; lia)) ?_
    refine And.intro (by lia) ?_
    refine And.intro (by rw [List.length_reverse]; (exact Nat.le_trans (by assumption) (Nat.le_add_left _ _))) ?_
    refine row_for hp hn _ k hk9 _ _ _ _ _ _ _ (some (some (vs.length : Int))) _ vs.reverse _ spG A _ t ?_ (oG.of rfl rfl) rfl (by rw [hwk]; exact hmod) ?_ ?_ ?_ FG.nested FG.vne (FG.fin.trans h'.rst.fin) ?_ ?_ ?_ ?_
    . intro v q; exact hvs v (List.mem_reverse.mp q)
    . rw [hwk, List.length_reverse]
      rcases Nat.lt_or_ge s 4 with q | q
      . have := hroom q; (generalize vs.length = z0 at hroom cG ⊢; generalize A.length = z1 at hroom cG; generalize (al 4 (wk * vs.length) out).length = z2 at hroom cG; lia)
      . (generalize vs.length = z0 at rG ⊢; lia)
    . rw [List.length_reverse]; (generalize A.length = z0 at hal2 ⊢; generalize vs.length = z1 at hvl' hal hal2 ⊢; generalize out.length = z2 at ho hal; generalize (al 4 (wk * vs.length) out).length = z3 at hal hal2; lia)
    . refine mx (mx h'.min pw4 rfl rfl) hs mG ?_
      show max (max AG.pmax _) _ = _
      rw [FG.pmax]
    . show 0 <= AG.bi; rw [FG.bi]; exact hjJ
    . show AG.script.length <= _; rw [FG.script]; exact hsc
    . show AG.vts.length <= t /\ ∀ k ∈ AG.vts, _; rw [FG.vts]; exact h.rst.vts
    intro AH spH oH e h1 h2 h3 h4 h5 h6 h7 h8 h9 h10 h11
    rw [List.length_reverse] at h4
    refine hen AH _ spH oH vs.length h1 h6 h7 (by exact Nat.le_trans (by assumption) (Nat.le_add_left _ _)) h3 ?_
    intro AJ FJ mJ oJ
    refine And.intro (by lia) ?_
    refine ha AJ _ oH (vs.length : Int) 4 (FJ.pile.trans h2) (by lia) (by (generalize A.length = z0 at hal2 h4; lia)) ?_
    refine ifT ?_ ?_
    . show ((A.length : Int) == ((toI A).length : Int)) = true
      rw [aQ]; exact beq_self_eq_true _
    refine And.intro (by rw [aQ, List.length_append, aE]; (generalize A.length = z0 at hal2 h4; lia)) ?_
    conv => whnf
    have ee : (((aF 4 (vs.length : Int) ++ oH).length : Int) == ((toI (aF 4 (vs.length : Int) ++ oH)).length : Int)) = true := by
      rw [aQ]; exact beq_self_eq_true _
    rw [ee]
    refine hK _ (aF 4 (vs.length : Int) ++ oH) ⟨⟨_, oJ.of rfl rfl⟩, rfl, ?_, ?_⟩ ?_
    . obtain ⟨m, g1, g2, g3⟩ := h5
      exact ⟨m, g1, mJ.trans g2, FJ.pmax.trans g3⟩
    . exact ⟨FJ.nested, FJ.fin.trans h8, by show 0 <= AJ.bi; rw [FJ.bi]; exact h9, by show AJ.script.length <= _; rw [FJ.script]; exact h10, by show AJ.vts.length <= t /\ ∀ k ∈ AJ.vts, _; rw [FJ.vts]; exact h11⟩
    . rw [List.length_append, aE]; (generalize A.length = z0 at hal2 h4; lia)
end Fb
namespace Fb
theorem keyAt_inj {t t' : Nat} {k : List Int} (h : KeyAt t k) (h' : KeyAt t' k) : t = t' := by
  rcases h with ⟨a, b⟩ | ⟨a, b⟩ <;> rcases h' with ⟨c, d⟩ | ⟨c, d⟩
  . lia
  . rw [b] at d; exact absurd (Option.some.inj d) (by decide)
  . rw [b] at d; exact absurd (Option.some.inj d) (by decide)
  . lia
theorem val8 {v : AV} (h : Val 8 v) : ∃ a, v = .int a := by
  rcases aY h with h' | ⟨b, rfl⟩
  . exact h'
  . exact nomatch h
theorem val6 {v : AV} (h : Val 6 v) : ∃ a, v = .int a := by
  rcases aY h with h' | ⟨b, rfl⟩
  . exact h'
  . exact nomatch h
noncomputable def objBody : List IS := [.expr (.call 35 [(.loc 1), (.lit (.int 2)), (.lit (.int 0))]), .expr (.call 36 [(.loc 1), (.loc 14), (.lit (.int 2))])]
theorem obj_for {Γ : Fns} (he : SEven (Γ 777)) (ha : SAdd (Γ 782)) (n : Nat) (a0 a2 a3 a4 a5 a6 a7 a8 a9 a10 a11 a12 a13 a15 a16 : AV) (Kc : Fl -> List AV -> St -> Prop) : ∀ (xs : List Int) (σ : St) (o : List UInt8) (a14 : AV), σ.pile = toI o -> 2 <= σ.pmax -> o.length + 20 * xs.length <= 17000 ->
    (∀ e, Kc .next [a0, .pile, a2, a3, a4, a5, a6, a7, a8, a9, a10, a11, a12, a13, e, a15, a16] (σ.uPile (toI (fB xs o)))) ->
    a0 = .bld -> nO (wp Γ (n + 20)) 14 objBody (xs.map .int) [a0, .pile, a2, a3, a4, a5, a6, a7, a8, a9, a10, a11, a12, a13, a14, a15, a16] σ Kc
  | [], σ, o, a14, hp, hm, hl, hK, _ => by
    have := hK a14
    rw [show toI (fB [] o) = σ.pile from hp.symm] at this
    exact this
  | x :: xs, σ, o, a14, hp, hm, hl, hK, h0 => by
    have hal := bR (size := 2) (more := 0) (out := o) pw2
    rw [List.length_cons] at hl
    refine he σ _ o 2 0 hp pw2 (by lia) ?_
    have e : max σ.pmax ((2 : Nat) : Int) = σ.pmax := by (exact Int.max_eq_left (by assumption))
    rw [e]
    refine ha _ _ (al 2 0 o) x 2 rfl (by lia) (by (have q1 := hal.1; clear hal; (exact Nat.le_trans (by assumption) (by lia)))) ?_
    exact obj_for he ha n a0 a2 a3 a4 a5 a6 a7 a8 a9 a10 a11 a12 a13 a15 a16 Kc xs (σ.uPile (toI (aF 2 x ++ al 2 0 o))) _ _ rfl hm (by rw [List.length_append, aE]; (have q1 := hal.1; clear hal; lia)) hK h0
noncomputable def objX (a b : Int) (out : List UInt8) : List UInt8 := aF 8 a ++ (aF 2 b ++ (zs 6 ++ al 8 16 out))
theorem pw8 : Pw 8 := by unfold Pw; decide
theorem objX_len (a b : Int) (out : List UInt8) : (objX a b out).length = 16 + (al 8 16 out).length := by
  unfold objX; rw [List.length_append, List.length_append, List.length_append, aE, aE, List.length_replicate]; lia
theorem objX_mod (a b : Int) (out : List UInt8) : (objX a b out).length % 8 = 0 := by
  have := al_mod (more := 16) out pw8
  rw [objX_len]; lia
theorem set0 (t : Nat) (x : Int) : (List.replicate (t + 2) 0).set t x = List.replicate t 0 ++ [x, 0] := by
  induction t with
  | zero => rfl
  | succ t ih => rw [List.replicate_succ, List.set_cons_succ, ih]; rfl
theorem set1 (t : Nat) (x y : Int) : (List.replicate t 0 ++ [x, 0]).set (t + 1) y = List.replicate t 0 ++ [x, y] := by
  induction t with
  | zero => rfl
  | succ t ih => rw [List.replicate_succ, List.cons_append, List.set_cons_succ, ih]; rfl
noncomputable def wayElt : IE := .bin .mod (.bin .fdiv (.loc 15) (.bin .pow (.lit (.int 256)) (.loc 16))) (.lit (.int 256))
theorem way_comp {Γ : Fns} (n : Nat) (a0 a1 a2 a3 a4 a5 a6 a7 a8 a9 a10 a11 a12 a13 a14 x : AV) (i : Int) (Kc : List AV -> St -> Prop) (σ : St) : ∀ (ks : List Nat) (acc : List AV), (∀ k ∈ ks, k <= 8) -> Kc (acc ++ ks.map fun (k : Nat) => .int (i / 256 ^ k % 256)) σ ->
    kT ((wp Γ (n + 20)).e wayElt) 16 [a0, a1, a2, a3, a4, a5, a6, a7, a8, a9, a10, a11, a12, a13, a14, .int i, x] (ks.map fun (k : Nat) => (k : Int)) σ acc Kc
  | [], acc, _, h => by rw [List.map_nil, List.append_nil] at h; exact h
  | k :: ks, acc, hk, h => by
    have hp := pow_ok (hk k (List.mem_cons_self ..))
    have hk8 := hk k (List.mem_cons_self ..)
    have e : ((k : Int)).toNat = k := by (exact Int.toNat_natCast _)
    refine And.intro (⟨by decide, by decide, by show 0 <= (k : Int); lia, by show (k : Int) <= 100; (exact Int.ofNat_le.mpr (by exact Nat.le_trans (by assumption) (Nat.le_add_left _ _)))⟩) ?_
    rw [e]
    refine ⟨hp, ?_⟩
    refine And.intro (by decide) ?_
    refine way_comp n a0 a1 a2 a3 a4 a5 a6 a7 a8 a9 a10 a11 a12 a13 a14 x i Kc σ ks _ (fun q hq => hk q (List.mem_cons_of_mem _ hq)) ?_
    rw [List.append_assoc]
    exact h
theorem offs_rev (there inner num : Int) (t : Nat) : (offs there inner num t).reverse = (List.replicate t 0 ++ [there - inner]) ++ (if num = 0 then [] else [there - num]) := by
  unfold offs
  rw [List.reverse_append, List.reverse_cons, List.reverse_replicate]
  split <;> rfl
theorem vtRow_rev (there begin_ inner num : Int) (t : Nat) : (cU there begin_ inner num t).reverse = [4 + 2 * ((offs there inner num t).length : Int), there - begin_] ++ (offs there inner num t).reverse := by
  unfold cU; rw [List.reverse_append]; rfl
theorem flat0 (t : Nat) : (List.replicate t [(0 : Int)]).flatten = List.replicate t 0 := by
  induction t with
  | zero => rfl
  | succ t ih => rw [List.replicate_succ, List.flatten_cons, ih, List.replicate_succ]; rfl
noncomputable def SU8Slot (S : Fn) : Prop := ∀ σ K sp out (k : Nat) (l : List Int) (x : Int), Ok σ sp out -> σ.nested = true -> σ.cv = some l -> k < l.length -> l.length <= 1000 -> 0 < x -> x <= 255 -> out.length <= 18000 ->
  (∀ σ' sp', Fr (σ.uCv (some (l.set k ((out.length : Int) + 1)))) σ' -> σ'.minalign = max σ.minalign (1 : Nat) -> Ok σ' sp' (aF 1 x ++ out) -> K .none σ') -> S [.bld, .int k, .int x, .int 0] σ K
end Fb
set_option genInjectivity false
set_option genCtorIdx false
set_option genSizeOf false
set_option maxHeartbeats 2000000
namespace Fb
structure Mid (σ : St) (out X Y : List UInt8) (t m : Nat) (num : Int) : Prop where
  y : (Y = X /\ num = 0) \/ (Y = aF 1 7 ++ X /\ num = Y.length)
  ok : ∃ sp, Ok σ sp Y
  pile : σ.pile = toI Y
  mi : σ.minalign = m
  pm : σ.pmax = m
  nested : σ.nested = true
  cv : σ.cv = some (List.replicate t 0 ++ [(X.length : Int), num])
  oend : σ.oend = some (out.length : Int)
  fin : σ.fin = false
  bi : 0 <= σ.bi
  script : σ.script.length <= 1000
  vts : σ.vts.length <= t /\ ∀ k ∈ σ.vts, ∃ t', t' < t /\ KeyAt t' k
noncomputable def SLObj (S : Fn) : Prop := ∀ σ K out (t : Nat), t < 10 -> J σ out t -> out.length <= 14000 -> (∀ σ' out', J σ' out' (t + 1) -> out'.length <= out.length + 200 -> K (.bool true) σ') -> S [.bld, .pile, .box, .int t] σ K
theorem lobj_ok {Γ : Fns} (hv : SValue (Γ 763)) (hso : SStartObj (Γ 364)) (hp : SPrep (Γ 413)) (hpad : SPad (Γ 406)) (h16 : SPreX 154 (Γ 669)) (h64 : SPreX 182 (Γ 683)) (hf : SOffset (Γ 399)) (hss : SStructSlot (Γ 613)) (he : SEven (Γ 777)) (ha : SAdd (Γ 782)) (ht : STake (Γ 756)) (hu : SU8Slot (Γ 550)) (heo : SEndObj (Γ 378)) : SLObj (aR Γ fuel jO 4 [] 13) := by
  intro σ K out t ht10 h ho hK
  have hsc := h.rst.script
  have hpl : σ.pile.length = out.length := by rw [h.pile, aQ]
  have hal := bR (size := 8) (more := 16) (out := out) pw8
  refine ⟨rfl, ?_⟩
  refine hv σ _ 8 (by exact Nat.lt_succ_self _) h.rst.bi (by exact Nat.le_trans (by assumption) (Nat.le_add_left _ _)) ?_
  intro va jJ hva hjH
  obtain ⟨a, rfl⟩ := val8 hva
  refine hv _ _ 6 (by exact Nat.le_add_left _ _) hjH (by show σ.script.length <= _; (exact Nat.le_trans (by assumption) (Nat.le_add_left _ _))) ?_
  intro vb jG hvb hjG
  obtain ⟨b, rfl⟩ := val6 hvb
  have h' : J (σ.uBi jG) out t := h.bi hjG
  refine bcn fun nG => ?_; obtain ⟨m, hm, hmi, hpm⟩ := h.min
  obtain ⟨sp, o⟩ := h'.ok
  refine nG ?_; refine hso _ _ sp out (t + 2) o h'.rst.nested (by exact Nat.lt_of_le_of_lt (by assumption) (by decide)) ?_
  refine And.intro (by show σ.pile.length <= _; (rw [hpl]; lia)) ?_
  rw [hpl]
  refine hp _ _ sp out 8 16 (o.of rfl rfl) pw8 (by lia) ?_
  intro AG spG FG mG rG cG oG
  rw [lW] at oG
  refine hpad AG _ spG _ 6 oG (by lia) (by exact Nat.le_add_left _ _) ?_
  intro AH FH mH oH
  refine h16 (.int b) _ AH _ _ _ hvb oH (by rw [List.length_append, List.length_replicate]; (have q1 := hal.1; clear hal; lia)) ?_
  intro AJ spW FJ mJ cH oJ
  have eW : al (bD 154) 0 (zs 6 ++ al 8 16 out) = zs 6 ++ al 8 16 out := oM (by
    show _ % 2 = 0
    have := al_mod (more := 16) out pw8
    rw [List.length_append, List.length_replicate]; lia)
  rw [eW] at oJ
  refine h64 (.int a) _ AJ _ _ _ hva oJ (by rw [List.length_append, List.length_append, List.length_replicate]; show 2 + _ <= _; (have q1 := hal.1; clear hal; lia)) ?_
  intro AW spJ FW mW cJ oW
  have eZ : al (bD 182) 0 (aF 2 b ++ (zs 6 ++ al 8 16 out)) = aF 2 b ++ (zs 6 ++ al 8 16 out) := oM (by
    show _ % 8 = 0
    have := al_mod (more := 16) out pw8
    rw [List.length_append, List.length_append, List.length_replicate, aE]; lia)
  have oG' : Ok AW spJ (objX a b out) := by
    have := oW
    rw [show bD (cOf 6) = 2 from rfl, show bD (cOf 8) = 8 from rfl] at this
    rw [show valInt (.int a) = a from rfl, show valInt (.int b) = b from rfl] at this
    unfold objX; rw [<- eZ]; exact this
  have hXl := objX_len a b out
  have hXm := objX_mod a b out
  generalize hX : objX a b out = X at *
  have MG : AW.minalign = ((max m 8 : Nat) : Int) := by
    rw [mW, mJ, mH, mG]
    show max (max (max σ.minalign ((8 : Nat) : Int)) ((2 : Nat) : Int)) ((8 : Nat) : Int) = _
    rw [hmi, lE m 8, Int.max_eq_left (Int.ofNat_le.mpr (Nat.le_trans (by decide) (Nat.le_max_right m 8))), Int.max_eq_left (Int.ofNat_le.mpr (Nat.le_max_right m 8))]
  have FGG := FG.trans (FH.trans (FJ.trans FW))
  refine hf AW _ spJ X oG' ?_
  refine hss AW _ spJ X t (List.replicate (t + 2) 0) oG' (by (clear hXm; lia)) FGG.nested FGG.cv (by rw [List.length_replicate]; simp) (by rw [List.length_replicate]; (exact Nat.lt_of_le_of_lt (by assumption) (by decide))) ?_
  rw [set0]
  refine he _ _ out 8 16 (FGG.pile.trans h.pile) pw8 (by lia) ?_
  refine And.intro (by decide) ?_
  refine And.intro (by decide) ?_
  refine And.intro (by show (List.replicate (Int.toNat 6) [(0 : Int)]).flatten.length + (toI (al 8 16 out)).length <= _; rw [aQ]; show 6 + _ <= _; (clear hXl; (have q1 := hal.1; clear hal; lia))) ?_
  refine And.intro (rfl) ?_
  refine ha _ _ (zs 6 ++ al 8 16 out) b 2 (by show (List.replicate (Int.toNat 6) [(0 : Int)]).flatten ++ toI (al 8 16 out) = _; rw [bT]; rfl) (by exact Nat.le_add_left _ _) (by rw [List.length_append, List.length_replicate]; (clear hXl; (have q1 := hal.1; clear hal; lia))) ?_
  refine ha _ _ (aF 2 b ++ (zs 6 ++ al 8 16 out)) a 8 rfl (by exact Nat.le_refl _) (by rw [List.length_append, List.length_append, List.length_replicate, aE]; (clear hXl; (have q1 := hal.1; clear hal; lia))) ?_
  have eX : aF 8 a ++ (aF 2 b ++ (zs 6 ++ al 8 16 out)) = X := hX
  rw [eX]
  refine ⟨by show (toI X).length <= _; rw [aQ]; (clear hXm; (have q1 := hal.1; clear hal; (rw [hXl]; lia))), ?_⟩
  have pmG : max AW.pmax ((8 : Nat) : Int) = ((max m 8 : Nat) : Int) := by rw [FGG.pmax]; show max σ.pmax _ = _; rw [hpm]; (clear mH; (exact lE _ _))
  have biG : 0 <= AW.bi := by rw [FGG.bi]; exact hjG
  have scG : AW.script.length <= 1000 := by rw [FGG.script]; exact hsc
  have vtG : AW.vts.length <= t /\ ∀ k ∈ AW.vts, ∃ t', t' < t /\ KeyAt t' k := by rw [FGG.vts]; exact h.rst.vts
  have eXl : ((toI X).length : Int) = X.length := by rw [aQ]
  refine bC (fun fr AG => fr = [.bld, .pile, .box, .int t, .int a, .int b, .int out.length, .int X.length, .int 0, .unb, .unb, .unb, .unb, .unb, .unb, .unb, .unb] /\ Mid AG out X X t (max m 8) 0) ?_ ?_
  . intro R hR _
    refine hR _ _ ⟨?_, ⟨.inl ⟨rfl, rfl⟩, ⟨spJ, oG'.of rfl rfl⟩, rfl, MG, pmG, FGG.nested, rfl, FGG.oend, FGG.fin.trans h.rst.fin, biG, scG, vtG⟩⟩
    show [AV.bld, .pile, .box, .int t, .int a, .int b, .int out.length, .int ((toI X).length : Int), .int 0, .unb, .unb, .unb, .unb, .unb, .unb, .unb, .unb] = _
    rw [eXl]
  clear eX MG pmG biG scG vtG FG FH FJ FW FGG mG mH mJ mW cG cH cJ rG oG oH oJ oW oG' eW eZ
  clear AG AH AJ AW
  rintro fr AG ⟨rfl, M⟩
  refine bC (fun fr AH => ∃ (Y : List UInt8) (num : Int), fr = [.bld, .pile, .box, .int t, .int a, .int b, .int out.length, .int X.length, .int num, .unb, .unb, .unb, .unb, .unb, .unb, .unb, .unb] /\ Mid AH out X Y t (max m 8) num) ?_ ?_
  . intro R hR _
    refine ht AG _ _ M.bi (by have := M.script; (exact Nat.le_trans (by assumption) (Nat.le_add_left _ _))) (by decide) ?_
    intro c j hc hc' hj
    refine ⟨fun _ => ?_, fun _ => ?_⟩
    . skip
      refine bcn fun nG => ?_; obtain ⟨spG, oG⟩ := M.ok
      refine nG ?_; refine hu _ _ spG X (t + 1) _ 7 (oG.of rfl rfl) M.nested M.cv (by simp) (by simp; lia) (by decide) (by decide) (by (clear hXm; (have q1 := hal.1; clear hal; (rw [hXl]; lia)))) ?_
      intro AH spH FH mH oH
      rw [set1] at FH
      refine ha AH _ X 7 1 (FH.pile.trans M.pile) (by lia) (by (clear hXm; (have q1 := hal.1; clear hal; (rw [hXl]; lia)))) ?_
      refine And.intro (by show (toI _).length <= _; rw [aQ, List.length_append, aE]; (clear hXm; (have q1 := hal.1; clear hal; (rw [hXl]; lia)))) ?_
      have e : ((toI (aF 1 7 ++ X)).length : Int) = (aF 1 7 ++ X).length := by rw [aQ]
      refine hR _ _ ⟨aF 1 7 ++ X, ((aF 1 7 ++ X).length : Int), ?_, ⟨.inr ⟨rfl, rfl⟩, ⟨spH, oH.of rfl rfl⟩, rfl, ?_, FH.pmax.trans M.pm, FH.nested.trans M.nested, ?_, FH.oend.trans M.oend, FH.fin.trans M.fin, ?_, ?_, ?_⟩⟩
      . show [AV.bld, .pile, .box, .int t, .int a, .int b, .int out.length, .int X.length, .int ((toI (aF 1 7 ++ X)).length : Int), .unb, .unb, .unb, .unb, .unb, .unb, .unb, .unb] = _
        rw [e]
      . show AH.minalign = _
        rw [mH]; show max AG.minalign _ = _; rw [M.mi]; (exact Int.max_eq_left (by exact Int.ofNat_le.mpr (by lia)))
      . show AH.cv = _
        rw [FH.cv]; show some (_ ++ [_, (X.length : Int) + 1]) = _
        rw [List.length_append, aE]; congr 4; (exact Int.add_comm _ _)
      . show 0 <= AH.bi; rw [FH.bi]; exact hj
      . show AH.script.length <= _; rw [FH.script]; exact M.script
      . show AH.vts.length <= t /\ ∀ k ∈ AH.vts, _; rw [FH.vts]; exact M.vts
    . skip
      refine hR _ _ ⟨X, 0, rfl, ⟨.inl ⟨rfl, rfl⟩, let ⟨spG, oG⟩ := M.ok; ⟨spG, oG.of rfl rfl⟩, M.pile, M.mi, M.pm, M.nested, M.cv, M.oend, M.fin, hj, M.script, M.vts⟩⟩
  clear M AG
  rintro fr AG ⟨Y, num, rfl, M⟩
  refine bcn fun nG => ?_; obtain ⟨spG, oG⟩ := M.ok
  have hYl : X.length <= Y.length /\ Y.length <= X.length + 1 := by
    rcases M.y with ⟨e, _⟩ | ⟨e, _⟩
    . rw [e]; simp
    . rw [e, List.length_append, aE]; lia
  have hnum : 0 <= num /\ num <= Y.length := by
    rcases M.y with ⟨_, e⟩ | ⟨_, e⟩ <;> rw [e] <;> (clear hXl; simp)
  have halY := bR (size := 4) (more := 0) (out := Y) pw4
  have hkey : KeyAt t (offs ((al 4 0 Y).length + 4) X.length num t ++ [((al 4 0 Y).length + 4) - (out.length : Int)]) := by
    rcases M.y with ⟨e, e'⟩ | ⟨e, e'⟩
    . left
      have hA : (al 4 0 Y).length = X.length := by rw [e, oM (by (clear hXl; lia))]
      rw [e', hA]
      refine ⟨by rw [List.length_append, lD]; simp; (exact Nat.add_comm _ _), ?_⟩
      unfold offs; rw [if_pos rfl]
      show some ((X.length : Int) + 4 - X.length) = _
      congr 1; lia
    . right
      have hY1 : Y.length = X.length + 1 := by rw [e, List.length_append, aE]; (generalize X.length = z0; (exact Nat.add_comm _ _))
      have hA : (al 4 0 Y).length = X.length + 4 := by
        have q : (Y.length + 0) % 4 = 1 := by (clear hXl; lia)
        rw [kV]; unfold padN; rw [q, hY1]; exact Nat.add_comm 3 _
      have hn0 : num ≠ 0 := by (clear hXl eXl hXm; lia)
      rw [hA]
      refine ⟨by rw [List.length_append, lD, if_neg hn0]; simp; (exact Nat.add_comm _ _), ?_⟩
      unfold offs; rw [if_neg hn0]
      show some (((X.length + 4 : Nat) : Int) + 4 - num) = _
      congr 1; (clear hXm hXl eXl; lia)
  have hnot : (offs ((al 4 0 Y).length + 4) X.length num t ++ [((al 4 0 Y).length + 4) - (out.length : Int)]) ∉ AG.vts := by
    intro q
    obtain ⟨t', h1, h2⟩ := M.vts.2 _ q
    have := keyAt_inj hkey h2
    lia
  refine nG ?_; refine heo AG _ spG Y _ t X.length num out.length oG M.nested (isL_of t _ _) (by lia) M.cv M.oend (by (clear hXm; lia)) (by (clear eXl hXm hXl; lia)) hnum.1 hnum.2 (by lia) (by (clear hXm; lia)) (by rw [M.mi]; lia) (by (clear hXm; (have q1 := hal.1; have q2 := hYl.2; clear hal hYl; lia))) (by have := M.vts.1; (exact Nat.le_trans (by assumption) (by lia))) hnot ?_
  intro AH spH g1 g2 g3 g4 g5 g6 g7 g8 oH
  have hA4 := al4_mod Y
  generalize hA : al 4 0 Y = A at *
  refine he AH _ Y 4 0 (g4.trans M.pile) pw4 (by (clear hXm; (have q1 := hal.1; have q2 := hYl.2; clear hal hYl; (exact Nat.le_trans (by assumption) (by lia))))) ?_
  rw [hA]
  have eA : ((toI A).length : Int) = A.length := by rw [aQ]
  have pmH : max AH.pmax ((4 : Nat) : Int) = ((max m 8 : Nat) : Int) := by rw [g5, M.pm]; (exact Int.max_eq_left (by lia))
  rw [pmH]
  refine bC (fun fr AJ => fr = [.bld, .pile, .box, .int t, .int a, .int b, .int out.length, .int X.length, .int num, .int ((A.length : Int) + 4), .ints (toI A), .unb, .unb, .unb, .unb, .unb, .unb] /\ ((AH.uPmax (((max m 8 : Nat) : Int))).uPile (toI A)) = AJ) ?_ ?_
  . intro R hR _
    exact hR _ _ ⟨rfl, rfl⟩
  rintro fr AJ ⟨rfl, rfl⟩
  refine bC (fun fr AJ => fr = [.bld, .pile, .box, .int t, .int a, .int b, .int out.length, .int X.length, .int num, .int ((A.length : Int) + 4), .ints (toI A), .int ((A.length : Int) + 4), .unb, .unb, .unb, .unb, .unb] /\ ((AH.uPmax (((max m 8 : Nat) : Int))).uPile (toI A)) = AJ) ?_ ?_
  . intro R hR _
    refine And.intro (by rw [aQ]; (clear hA4 hXm; lia)) ?_
    refine hR _ _ ⟨?_, rfl⟩
    rw [<- eA]; rfl
  rintro fr AJ ⟨rfl, rfl⟩
  refine bC (fun fr AJ => fr = [.bld, .pile, .box, .int t, .int a, .int b, .int out.length, .int X.length, .int num, .int ((A.length : Int) + 4), .ints (toI A), .int ((A.length : Int) + 4), .ints (offs ((A.length : Int) + 4) X.length num t).reverse, .unb, .unb, .unb, .unb] /\ ((AH.uPmax (((max m 8 : Nat) : Int))).uPile (toI A)) = AJ) ?_ ?_
  . intro R hR _
    refine And.intro (by decide) ?_
    refine And.intro (⟨by (clear hK; (exact Int.natCast_nonneg _)), by lia, by decide⟩) ?_
    refine And.intro (Nat.le_of_ble_eq_true rfl) ?_
    rw [show ((t : Int)).toNat = t from by (exact Int.toNat_natCast _), flat0]
    refine ⟨by rw [List.length_replicate]; show t + 1 <= _; lia, ?_⟩
    have hlen1 : (List.replicate t (0 : Int) ++ [(A.length : Int) + 4 - X.length]).length = t + 1 := by rw [List.length_append, List.length_replicate]; rfl
    refine ⟨fun hc => ?_, fun hc => ?_⟩
    . have hc := of_decide_eq_true hc
      have hn0 : num ≠ 0 := by (exact Int.ne_of_gt (by assumption))
      refine And.intro (Nat.le_of_ble_eq_true rfl) ?_
      refine And.intro (by rw [hlen1]; show t + 1 + 1 <= _; lia) ?_
      refine hR _ _ ⟨?_, rfl⟩
      rw [offs_rev, if_neg hn0]; rfl
    . have hc := of_decide_eq_false hc
      have hn0 : num = 0 := by (have q1 := hnum.1; clear hnum; lia)
      refine And.intro (Nat.le_of_ble_eq_true rfl) ?_
      refine And.intro (by rw [hlen1]; show t + 1 + 0 <= _; lia) ?_
      refine hR _ _ ⟨?_, rfl⟩
      rw [offs_rev, if_pos hn0]; rfl
  rintro fr AJ ⟨rfl, rfl⟩
  have hol := lD ((A.length : Int) + 4) X.length num t
  have hol' : (offs ((A.length : Int) + 4) X.length num t).length <= t + 2 := by rw [hol]; split <;> lia
  have hvr := vtRow_rev ((A.length : Int) + 4) out.length X.length num t
  have hvl : (cU ((A.length : Int) + 4) out.length X.length num t).length = (offs ((A.length : Int) + 4) X.length num t).length + 2 := by unfold cU; rw [List.length_append]; rfl
  conv => whnf
  rw [List.length_reverse]
  refine ⟨by (clear hol; (generalize (offs (↑A.length + 4) (↑X.length) num t).length = z0 at hol' ⊢; (exact Nat.le_trans (by assumption) (by lia)))), ?_⟩
  refine And.intro (⟨by decide, by (clear hol; lia)⟩) ?_
  refine And.intro (Nat.le_of_ble_eq_true rfl) ?_
  refine And.intro (by rw [List.length_reverse]; show 2 + _ <= _; (clear hol; (generalize (offs (↑A.length + 4) (↑X.length) num t).length = z0 at hol' ⊢; lia))) ?_
  refine And.intro (by decide) ?_
  refine And.intro (by show 4 + (toI A).length <= _; rw [aQ]; (clear hA4 hXm; lia)) ?_
  refine And.intro (rfl) ?_
  rw [<- hvr]
  refine ⟨by rw [List.length_reverse]; (clear hol; (generalize (cU (↑A.length + 4) (↑out.length) (↑X.length) num t).length = z0 at hvl ⊢; generalize (offs (↑A.length + 4) (↑X.length) num t).length = z1 at hol' hvl; (rw [hvl]; lia))), ?_⟩
  rw [List.reverse_reverse]
  refine ⟨by rw [List.length_map]; (clear hol; (generalize (cU (↑A.length + 4) (↑out.length) (↑X.length) num t).length = z0 at hvl ⊢; generalize (offs (↑A.length + 4) (↑X.length) num t).length = z1 at hol' hvl; (rw [hvl]; lia))), ?_⟩
  have hzl : (zs 4 ++ A).length = A.length + 4 := by rw [List.length_append, List.length_replicate]; (exact Nat.add_comm _ _)
  have hVs := gH (cU ((A.length : Int) + 4) out.length X.length num t) (zs 4 ++ A) (by lia)
  refine obj_for he ha _ _ _ _ _ _ _ _ _ _ _ _ _ _ _ _ _ (cU ((A.length : Int) + 4) out.length X.length num t) _ (zs 4 ++ A) _ ?_ ?_ (by (clear hA4 hXm hol; lia)) ?_ rfl
  . show [0, 0, 0, 0] ++ toI A = _; rw [bT]; rfl
  . show 2 <= ((max m 8 : Nat) : Int); (clear pmH; lia)
  intro e
  rw [hVs]
  have hVl : (((cU ((A.length : Int) + 4) out.length X.length num t).reverse.map (aF 2)).flatten).length = 2 * (cU ((A.length : Int) + 4) out.length X.length num t).length := by rw [lJ, List.length_reverse]
  generalize hV : ((cU ((A.length : Int) + 4) out.length X.length num t).reverse.map (aF 2)).flatten = V at *
  have eV : ((toI (V ++ (zs 4 ++ A))).length : Int) - ((A.length : Int) + 4) = V.length := by rw [aQ, List.length_append, hzl]; simp
  refine And.intro (by rw [aQ, List.length_append, hzl]; (clear hol hA4 hXm; lia)) ?_
  conv => whnf
  rw [eV]
  refine ⟨⟨by (clear eV hVl; lia), by (clear hol; lia), by rw [aQ, List.length_append, hzl]; lia⟩, ?_⟩
  refine And.intro (⟨by decide, by decide⟩) ?_
  refine way_comp _ _ _ _ _ _ _ _ _ _ _ _ _ _ _ _ _ (V.length : Int) _ _ [0, 1, 2, 3] [] (by decide) ?_
  have e4 : cC ([] ++ [0, 1, 2, 3].map fun (k : Nat) => AV.int ((V.length : Int) / 256 ^ k % 256)) = .ints (toI (aF 4 (V.length : Int))) := by
    have : ([0, 1, 2, 3].map fun (k : Nat) => AV.int ((V.length : Int) / 256 ^ k % 256)) = ((List.range 4).map fun k => (V.length : Int) / 256 ^ k % 256).map AV.int := by rw [List.map_map]; rfl
    rw [List.nil_append, this, nJ, <- toI_le]
  rw [e4]
  have hT : List.take ((V.length : Int)).toNat (toI (V ++ (zs 4 ++ A))) = toI V := by
    rw [show ((V.length : Int)).toNat = V.length from by (clear eV hVl; (exact Int.toNat_natCast _)), bT, List.take_left' (aQ V)]
  refine And.intro (?_) ?_
  . show (List.take ((V.length : Int)).toNat (toI (V ++ (zs 4 ++ A)))).length + (toI (aF 4 (V.length : Int))).length <= _
    rw [hT, aQ, aQ, aE]; (clear hol; lia)
  refine And.intro (?_) ?_
  . show (List.take ((V.length : Int)).toNat (toI (V ++ (zs 4 ++ A))) ++ toI (aF 4 (V.length : Int))).length + (toI A).length <= _
    rw [hT, List.length_append, aQ, aQ, aQ, aE]; (clear hA4 hol hXm; lia)
  refine And.intro (rfl) ?_
  conv => whnf
  have eR : (((A.length : Int) + 4) == ((A.length : Int) + 4)) = true := beq_self_eq_true _
  rw [eR]
  have eO : objEnd ((A.length : Int) + 4) out.length X.length num t Y = V ++ (aF 4 (V.length : Int) ++ A) := by
    unfold objEnd; rw [hV, hA, show (2 * ((cU ((A.length : Int) + 4) out.length X.length num t).length : Int)) = V.length from by (clear hvl; (generalize (cU (↑A.length + 4) (↑out.length) (↑X.length) num t).length = z0 at hVl ⊢; generalize V.length = z1 at hVl ⊢; (rw [hVl]; rfl)))]
  rw [eO] at oH
  refine hK _ (V ++ (aF 4 (V.length : Int) ++ A)) ⟨⟨spH, oH.of rfl rfl⟩, ?_, ⟨max m 8, hm.max pw8, g8.trans M.mi, rfl⟩, ⟨g1, g2.trans M.fin, ?_, ?_, ?_, ?_⟩⟩ ?_
  . show (List.take ((V.length : Int)).toNat (toI (V ++ (zs 4 ++ A))) ++ toI (aF 4 (V.length : Int))) ++ toI A = _
    rw [hT, bT, bT, List.append_assoc]
  . show 0 <= AH.bi; rw [g7]; exact M.bi
  . show AH.script.length <= _; rw [g6]; exact M.script
  . show AH.vts.length <= _; rw [g3, List.length_append]; have := M.vts.1; show _ + 1 <= _; (exact Nat.succ_le_succ (by assumption))
  . show ∀ k ∈ AH.vts, _
    rw [g3]
    intro k hk
    rcases List.mem_append.mp hk with q | q
    . obtain ⟨t', h1, h2⟩ := M.vts.2 k q
      exact ⟨t', by (exact Nat.le_succ_of_le (by assumption)), h2⟩
    . rw [List.mem_singleton.mp q]
      exact ⟨t, by (exact Nat.lt_succ_self _), hkey⟩
  . rw [List.length_append, List.length_append, aE]; (clear hA4 hol hXm; lia)
end Fb
set_option maxHeartbeats 2000000
namespace Fb
theorem J.up {σ : St} {out : List UInt8} {t : Nat} (h : J σ out t) : J σ out (t + 1) :=
  ⟨h.ok, h.pile, h.min, ⟨h.rst.nested, h.rst.fin, h.rst.bi, h.rst.script, by have := h.rst.vts.1; (exact Nat.le_succ_of_le (by assumption)), fun k hk => let ⟨t', a, b⟩ := h.rst.vts.2 k hk; ⟨t', by (exact Nat.le_succ_of_le (by assumption)), b⟩⟩⟩
theorem pw_pow {r : Int} (h : 0 <= r) (h' : r < 5) : Pw (2 ^ r.toNat) := by
  have : r = 0 \/ r = 1 \/ r = 2 \/ r = 3 \/ r = 4 := by lia
  rcases this with h | h | h | h | h <;> subst h <;> simp [Pw]
theorem val3 {v : AV} (h : Val 3 v) : ∃ a, v = .int a := by
  rcases aY h with h' | ⟨b, rfl⟩
  . exact h'
  . exact nomatch h
theorem pw1 : Pw 1 := by unfold Pw; decide
theorem Rst.upd {σ σ' : St} {t : Nat} (h : Rst σ t) (a : σ'.nested = σ.nested) (b : σ'.fin = σ.fin) (c : σ'.bi = σ.bi) (d : σ'.script = σ.script) (e : σ'.vts = σ.vts) : Rst σ' t :=
  ⟨a.trans h.nested, b.trans h.fin, by rw [c]; exact h.bi, by rw [d]; exact h.script, by rw [e]; exact h.vts⟩
noncomputable def SLCall (S : Fn) : Prop := ∀ σ K out (t : Nat), t < 10 -> J σ out t -> out.length <= 13000 -> (∀ σ' out', J σ' out' (t + 1) -> out'.length <= out.length + 200 -> K (.bool true) σ') -> S [.bld, .pile, .box, .int t] σ K
theorem lcall_ok {Γ : Fns} (ht : STake (Γ 756)) (hv : SValue (Γ 763)) (hp : SPrep (Γ 413)) (hpad : SPad (Γ 406)) (hpl : SPlace (Γ 704)) (he : SEven (Γ 777)) (ha : SAdd (Γ 782)) (hpr : SLPre (Γ 770)) (hn : SNum (Γ 789)) (hway : SLWay (Γ 796)) (hrow : SLRow (Γ 801)) (hoct : SLOct (Γ 806)) (hobj : SLObj (Γ 811)) : SLCall (aR Γ fuel lR 4 [] 6) := by
  intro σ K out t ht10 h ho hK
  have hsc := h.rst.script
  refine ⟨rfl, ?_⟩
  refine ht σ _ _ h.rst.bi (by exact Nat.le_trans (by assumption) (Nat.le_add_left _ _)) (by decide) ?_
  intro pick j hp0 hp1 hj
  have h' : J (σ.uBi j) out t := h.bi hj
  have hsc' : ((σ.uBi j) : St).script.length <= 1000000 := by show σ.script.length <= _; (exact Nat.le_trans (by assumption) (Nat.le_add_left _ _))
  have hpick : pick = 0 \/ pick = 1 \/ pick = 2 \/ pick = 3 \/ pick = 4 \/ pick = 5 \/ pick = 6 \/ pick = 7 := by lia
  rcases hpick with e | e | e | e | e | e | e | e <;> subst e
  . -- Prep
    refine ifT rfl ?_
    refine ht _ _ _ hj hsc' (by decide) ?_
    intro r jJ hr hr' hjH
    refine And.intro (⟨by decide, by decide, hr, by lia⟩) ?_
    refine ht _ _ _ hjH (by show σ.script.length <= _; lia) (by decide) ?_
    intro c jG hc hc' hjG
    obtain ⟨c, rfl⟩ : ∃ k : Nat, c = k := ⟨c.toNat, by (exact (Int.toNat_of_nonneg (by assumption)).symm)⟩
    have e : (2 : Int) ^ r.toNat = ((2 ^ r.toNat : Nat) : Int) := by rw [Int.natCast_pow]; rfl
    have hs := pw_pow hr hr'
    rw [e]
    generalize 2 ^ r.toNat = s at *
    have hH : J (σ.uBi jG) out t := h.bi hjG
    refine bcn fun nG => ?_; obtain ⟨sp, o⟩ := hH.ok
    have hal := bR (size := s) (more := c) (out := out) hs
    refine nG ?_; refine hp _ _ sp out s c o hs (by lia) ?_
    intro AG spG FG mG rG cG oG
    rw [lW] at oG
    refine he AG _ out s c (FG.pile.trans h.pile) hs (by lia) ?_
    refine hK _ (al s c out) ⟨⟨spG, oG.of rfl rfl⟩, rfl, mx hH.min hs mG (by show max AG.pmax _ = _; rw [FG.pmax]), (hH.up.rst).upd FG.nested FG.fin FG.bi FG.script FG.vts⟩ (by lia)
  . -- Pad
    refine ifF rfl (ifT rfl ?_)
    refine ht _ _ _ hj hsc' (by decide) ?_
    intro c jG hc hc' hjG
    obtain ⟨c, rfl⟩ : ∃ k : Nat, c = k := ⟨c.toNat, by lia⟩
    have hH : J (σ.uBi jG) out t := h.bi hjG
    refine bcn fun nG => ?_; obtain ⟨sp, o⟩ := hH.ok
    refine nG ?_; refine hp _ _ sp out 1 c o pw1 (by lia) ?_
    intro AG spG FG mG rG cG oG
    rw [lW, al_one] at oG
    refine hpad AG _ spG out c oG (by lia) (by lia) ?_
    intro AH FH mH oH
    refine he AH _ out 1 c (FH.pile.trans (FG.pile.trans h.pile)) pw1 (by lia) ?_
    rw [al_one]
    refine And.intro (by decide) ?_
    refine And.intro (⟨by assumption, by lia, by decide⟩) ?_
    rw [show ((c : Int)).toNat = c from by (exact Int.toNat_natCast _), flat0]
    refine ⟨by rw [List.length_replicate, aQ]; lia, ?_⟩
    refine And.intro (rfl) ?_
    refine hK _ (zs c ++ out) ⟨⟨_, oH.of rfl rfl⟩, by show List.replicate c 0 ++ toI out = _; rw [bT, toI_zs], mx hH.min pw1 (mH.trans mG) (by show max AH.pmax _ = _; rw [FH.pmax, FG.pmax]), (hH.up.rst).upd (FH.nested.trans FG.nested) (FH.fin.trans FG.fin) (FH.bi.trans FG.bi) (FH.script.trans FG.script) (FH.vts.trans FG.vts)⟩ (by rw [List.length_append, List.length_replicate]; lia)
  . -- Place
    refine ifF rfl (ifF rfl (ifT rfl ?_))
    refine hv _ _ 3 (by decide) hj hsc' ?_
    intro v jG hval hjG
    obtain ⟨a, rfl⟩ := val3 hval
    have hH : J (σ.uBi jG) out t := h.bi hjG
    refine bcn fun nG => ?_; obtain ⟨sp, o⟩ := hH.ok
    refine nG ?_; refine hp _ _ sp out 1 4 o pw1 (by lia) ?_
    intro AG spG FG mG rG cG oG
    rw [lW, al_one] at oG
    have hval' : encV 112 (.int a) = some (aF 4 a) := hval
    refine hpl 112 (.int a) _ AG _ spG out hval' rfl oG (by rw [aE]; (exact Nat.le_of_lt (by assumption))) ?_
    intro AH FH mH oH
    refine ha AH _ out a 4 (FH.pile.trans (FG.pile.trans h.pile)) (by exact Nat.le_add_left _ _) (by exact Nat.le_trans (by assumption) (Nat.le_add_left _ _)) ?_
    have hmin : ∃ m : Nat, Pw m /\ AH.minalign = m /\ AH.pmax = m := by
      obtain ⟨m, g1, g2, g3⟩ := hH.min
      have := g1.pos
      exact ⟨m, g1, by rw [mH, mG, g2]; (clear g2; (exact Int.max_eq_left (by (have q1 := this.1; clear this; lia)))), by rw [FH.pmax, FG.pmax]; exact g3⟩
    refine hK _ (aF 4 a ++ out) ⟨⟨_, oH.of rfl rfl⟩, rfl, hmin, (hH.up.rst).upd (FH.nested.trans FG.nested) (FH.fin.trans FG.fin) (FH.bi.trans FG.bi) (FH.script.trans FG.script) (FH.vts.trans FG.vts)⟩ (by rw [List.length_append, aE]; lia)
  . -- Prepend
    refine ifF rfl (ifF rfl (ifF rfl (ifT rfl ?_)))
    refine ht _ _ _ hj hsc' (by decide) ?_
    intro k jJ hk hk' hjH
    obtain ⟨k, rfl⟩ : ∃ n : Nat, k = n := ⟨k.toNat, by lia⟩
    have hk9 : k < 9 := by (exact Int.ofNat_lt.mp (by assumption))
    have hw := width_le k hk9
    refine hv _ _ k hk9 hjH (by show σ.script.length <= _; lia) ?_
    intro v jG hval hjG
    have hH : J (σ.uBi jG) out t := h.bi hjG
    refine bcn fun nG => ?_; obtain ⟨sp, o⟩ := hH.ok
    have hal := bR (size := bD (cOf k)) (more := 0) (out := out) hw.2
    refine nG ?_; rcases aY hval with ⟨i, rfl⟩ | ⟨b, rfl⟩
    all_goals
      refine hpr k _ _ _ sp out hk9 hval o (by lia) ?_
      intro AG spG FG mG cG oG
      refine hn AG _ out k _ (FG.pile.trans h.pile) hk9 hval (by lia) ?_
      refine hK _ _ ⟨⟨_, oG.of rfl rfl⟩, rfl, mx hH.min hw.2 mG (by show max AG.pmax _ = _; rw [FG.pmax]), (hH.up.rst).upd FG.nested FG.fin FG.bi FG.script FG.vts⟩ (by rw [List.length_append, aE]; lia)
  . refine ifF rfl (ifF rfl (ifF rfl (ifF rfl (ifT rfl ?_))))
    refine hway _ _ out t h' (by exact Nat.le_trans (by assumption) (Nat.le_add_left _ _)) ?_
    intro σ' out' h2 h3
    exact hK σ' out' h2.up (by exact Nat.le_trans (by assumption) (by lia))
  . refine ifF rfl (ifF rfl (ifF rfl (ifF rfl (ifF rfl (ifT rfl ?_)))))
    refine hrow _ _ out t h' (by exact Nat.le_trans (by assumption) (Nat.le_add_left _ _)) ?_
    intro σ' out' h2 h3
    exact hK σ' out' h2.up (by assumption)
  . refine ifF rfl (ifF rfl (ifF rfl (ifF rfl (ifF rfl (ifF rfl (ifT rfl ?_))))))
    refine hoct _ _ out t h' (by exact Nat.le_trans (by assumption) (Nat.le_add_left _ _)) ?_
    intro σ' out' h2 h3
    exact hK σ' out' h2.up (by lia)
  . refine ifF rfl (ifF rfl (ifF rfl (ifF rfl (ifF rfl (ifF rfl (ifF rfl ?_))))))
    refine hobj _ _ out t ht10 h' (by exact Nat.le_trans (by assumption) (Nat.le_add_left _ _)) ?_
    intro σ' out' h2 h3
    exact hK σ' out' h2 (by assumption)
end Fb
set_option maxHeartbeats 2000000
namespace Fb
noncomputable def SLSame (S : Fn) : Prop := ∀ σ K sp out, Ok σ sp out -> σ.pile = toI out -> K (.bool true) σ -> S [.bld, .pile] σ K
theorem lsame_ok {Γ : Fns} (hf : SOffset (Γ 399)) (hh : SHead (Γ 392)) : SLSame (aR Γ fuel lS 2 [] 1) := by
  intro σ K sp out h hp hK
  have a := h.len; have b := h.head; have d := h.lim
  have hpl : σ.pile.length = out.length := by rw [hp, aQ]
  refine ⟨rfl, ?_⟩
  refine hf σ _ sp out h ?_
  refine And.intro (by (rw [hpl]; lia)) ?_
  refine ifT ?_ ?_
  . show ((out.length : Int) == (σ.pile.length : Int)) = true
    rw [hpl]; exact beq_self_eq_true _
  refine hh σ _ ?_
  refine And.intro (⟨rfl, by (rw [a]; lia)⟩) ?_
  refine And.intro (by lia) ?_
  refine ifT ?_ ?_
  . show (σ.head == (σ.bytes.length : Int) - (σ.pile.length : Int)) = true
    rw [hpl, a, b, beq_iff_eq]; simp
  refine hh σ _ ?_
  refine And.intro (⟨rfl, by (rw [b]; lia), by lia, by lia⟩) ?_
  rw [h.drop]
  refine ⟨by lia, ?_⟩
  conv => whnf
  have e : decide ((List.map (fun x : UInt8 => (x.toNat : Int)) out) = σ.pile) = true := decide_eq_true (by rw [hp]; rfl)
  rw [e]
  exact hK
theorem toB_toI : ∀ (l : List UInt8), toB (toI l) = l
  | [] => rfl
  | x :: xs => by
    show UInt8.ofNat ((x.toNat : Int)).toNat :: toB (toI xs) = _
    rw [toB_toI xs]
    congr 1
    rw [show ((x.toNat : Int)).toNat = x.toNat from by (exact Int.toNat_natCast _)]
    exact UInt8.ofNat_toNat
theorem toI_range (l : List UInt8) : ∀ x ∈ toI l, 0 <= x /\ x < 256 := by
  intro x hx
  obtain ⟨y, _, rfl⟩ := List.mem_map.mp hx
  have := y.toNat_lt
  (exact ⟨by lia, by (exact Int.ofNat_lt.mpr (by assumption))⟩)
noncomputable def SFinX (b : Bool) (S : Fn) : Prop := ∀ σ K sp out (root : Int) (m : Nat) (f : Bool), Ok σ sp out -> 0 <= root -> root <= out.length -> Pw m -> σ.minalign = m -> out.length <= 15000 ->
  (∀ v σ' sp', Fr (σ.uFin true) σ' -> Ok σ' sp' (fin4 m b f root out) -> K v σ') -> S [.bld, .int root, fidV f] σ K
theorem fin_len2 (m : Nat) (b f : Bool) (out : List UInt8) : (fin2 m b f out).length = if f then 4 + (al 4 4 (al m (bE b f) out)).length else (al m (bE b f) out).length := by
  unfold fin2; split
  . rw [List.length_append]; rfl
  . rfl
theorem fin_len3 (m : Nat) (b f : Bool) (root : Int) (out : List UInt8) : (fin3 m b f root out).length = 4 + (al 4 0 (fin2 m b f out)).length := by
  unfold fin3 bM; rw [List.length_append, aE]
theorem fin_len4 (m : Nat) (b f : Bool) (root : Int) (out : List UInt8) : (fin4 m b f root out).length = if b then 4 + (al 4 0 (fin3 m b f root out)).length else (fin3 m b f root out).length := by
  unfold fin4; split
  . rw [List.length_append, aE]
  . rfl
theorem al_zero {size more : Nat} {o : List UInt8} (h : Pw size) (e : (o.length + more) % size = 0) : (al size more o).length = o.length := by
  rw [kV, oE e]; (exact Nat.add_comm _ _)
theorem fin_mod {m : Nat} (h : Pw m) (b f : Bool) (root : Int) (out : List UInt8) : (fin4 m b f root out).length % m = 0 := by
  have h3 : (fin3 m b f root out).length % 4 = 0 := by
    have := al4_mod (fin2 m b f out)
    rw [fin_len3]; (generalize (al 4 0 (fin2 m b f out)).length = z0 at this ⊢; (exact (Nat.add_mod_left _ _).trans (by assumption)))
  have h4 : (fin4 m b f root out).length % 4 = 0 := by
    have := al4_mod (fin3 m b f root out)
    rw [fin_len4]; split <;> lia
  rcases Nat.lt_or_ge m 8 with q | q
  . have : m ∣ 4 := pw_dvd h pw4 (by rcases h with h | h | h | h | h <;> lia)
    exact Nat.mod_eq_zero_of_dvd (Nat.dvd_trans this (Nat.dvd_of_mod_eq_zero h4))
  . have hm := al_mod (more := bE b f) out h
    have d4 : 4 ∣ m := pw_dvd pw4 h (by lia)
    have hx : bE b f % 4 = 0 := by induction b using Bool.casesOn <;> induction f using Bool.casesOn <;> rfl
    have hd : 4 ∣ (al m (bE b f) out).length + bE b f := Nat.dvd_trans d4 (Nat.dvd_of_mod_eq_zero hm)
    have h0 : (al m (bE b f) out).length % 4 = 0 := by (clear hm; (generalize (al m (bE b f) out).length = z0 at hd ⊢; generalize bE b f = z1 at hx hd ⊢; lia))
    have e2 : (fin2 m b f out).length = (al m (bE b f) out).length + (if f then 4 else 0) := by
      rw [fin_len2]
      split
      . rw [al_zero pw4 (by exact (Nat.add_mod_right _ _).trans (by assumption))]; (exact Nat.add_comm _ _)
      . (exact Int.toNat_natCast _)
    have e2' : (fin2 m b f out).length % 4 = 0 := by rw [e2]; split <;> lia
    have e3 : (fin3 m b f root out).length = 4 + (fin2 m b f out).length := by rw [fin_len3, al_zero pw4 (by assumption)]
    have e4 : (fin4 m b f root out).length = (al m (bE b f) out).length + bE b f := by
      rw [fin_len4, al_zero pw4 (by assumption), e3, e2]
      unfold bE
      split <;> split <;> lia
    rw [e4]; exact hm
end Fb
set_option maxHeartbeats 2000000
namespace Fb
noncomputable def lawBody : List IS := [.ifs (.or (.cmp .eq (.loc 4) (.lit (.int 0))) (.cmp .lt (.idx (.loc 1) (.lit (.int 1))) (.bif .len [(.idx (.loc 1) (.lit (.int 0)))]))) [.ifs (.or (.un .not (.call 42 [(.loc 2), (.loc 3), (.loc 1), (.loc 4)])) (.un .not (.call 43 [(.loc 2), (.loc 3)]))) [.ret (.lit (.bool false))] []] []]
theorem pI {Γ : Fns} (hc : SLCall (Γ 818)) (hs : SLSame (Γ 825)) (n : Nat) (a0 a5 a6 a7 a8 a9 : AV) (Kc : Fl -> List AV -> St -> Prop) : ∀ (c t : Nat) (σ : St) (out : List UInt8) (a4 : AV), t + c <= 10 -> J σ out t -> out.length <= 200 * t ->
    (∀ σ' out' e, J σ' out' (t + c) -> out'.length <= 200 * (t + c) -> Kc .next [a0, .box, .bld, .pile, e, a5, a6, a7, a8, a9] σ') ->
    nO (wp Γ (n + 20)) 4 lawBody ((List.range' t c).map fun (k : Nat) => .int (k : Int)) [a0, .box, .bld, .pile, a4, a5, a6, a7, a8, a9] σ Kc
  | 0, t, σ, out, a4, htc, h, ho, hK => hK σ out a4 h ho
  | c + 1, t, σ, out, a4, htc, h, ho, hK => by
    have hsc := h.rst.script
    have ee : t + 1 + c = t + (c + 1) := by (exact Nat.add_right_comm _ _ _)
    rw [List.range'_succ, List.map_cons]
    refine And.intro (fun _ => ?_) (fun _ => ?_)
    . skip
      refine ifT rfl ?_
      refine And.intro (rfl) ?_
      refine hc σ _ out t (by lia) h (by exact Nat.le_trans (by assumption) (by lia)) ?_
      intro AG outG hG hoG
      refine ifF rfl ?_
      refine And.intro (rfl) ?_
      obtain ⟨sp, o⟩ := hG.ok
      refine hs AG _ sp outG o hG.pile ?_
      refine ifF rfl ?_
      refine pI hc hs n a0 a5 a6 a7 a8 a9 Kc c (t + 1) AG outG _ (by lia) hG (by exact Nat.le_trans (by assumption) (by lia)) ?_
      rw [ee]; exact hK
    . skip
      refine And.intro (by exact Nat.le_trans (by assumption) (Nat.le_add_left _ _)) ?_
      refine And.intro (fun _ => ?_) (fun _ => ?_)
      . skip
        refine And.intro (rfl) ?_
        refine hc σ _ out t (by lia) h (by exact Nat.le_trans (by assumption) (by lia)) ?_
        intro AG outG hG hoG
        refine ifF rfl ?_
        refine And.intro (rfl) ?_
        obtain ⟨sp, o⟩ := hG.ok
        refine hs AG _ sp outG o hG.pile ?_
        refine ifF rfl ?_
        refine pI hc hs n a0 a5 a6 a7 a8 a9 Kc c (t + 1) AG outG _ (by lia) hG (by exact Nat.le_trans (by assumption) (by lia)) ?_
        rw [ee]; exact hK
      . skip
        refine pI hc hs n a0 a5 a6 a7 a8 a9 Kc c (t + 1) σ out _ (by lia) h.up (by exact Nat.le_trans (by assumption) (Nat.le_add_right _ _)) ?_
        rw [ee]; exact hK
theorem fin_bound {m : Nat} (h : Pw m) (b f : Bool) (root : Int) (out : List UInt8) : (fin2 m b f out).length <= out.length + 40 /\ (fin3 m b f root out).length <= out.length + 60 /\ (fin4 m b f root out).length <= out.length + 80 := by
  have h1 := bR (size := m) (more := bE b f) (out := out) h
  have h2 := bR (size := 4) (more := 4) (out := al m (bE b f) out) pw4
  have h3 := bR (size := 4) (more := 0) (out := fin2 m b f out) pw4
  have h4 := bR (size := 4) (more := 0) (out := fin3 m b f root out) pw4
  have e2 := fin_len2 m b f out
  have e3 := fin_len3 m b f root out
  have e4 := fin_len4 m b f root out
  have e2' : (fin2 m b f out).length <= out.length + 40 := by rw [e2]; split <;> lia
  have e3' : (fin3 m b f root out).length <= out.length + 60 := by (generalize (fin3 m b f root out).length = z0 at e3 ⊢; generalize out.length = z1 at e2' ⊢; generalize (al 4 0 (fin2 m b f out)).length = z2 at h3 e3; generalize (fin2 m b f out).length = z3 at h3 e2'; (rw [e3]; lia))
  exact ⟨e2', e3', by rw [e4]; split <;> (clear e3; lia)⟩
theorem law_tail {Γ : Fns} (hc : SLCall (Γ 818)) (hs : SLSame (Γ 825)) (ht : STake (Γ 756)) (hf0 : SFinX false (Γ 507)) (hf1 : SFinX true (Γ 515)) (he : SEven (Γ 777)) (ha : SAdd (Γ 782)) (hou : SOutput (Γ 357)) {σ : St} {Kc : Fl -> List AV -> St -> Prop} (h : J σ [] 0) (hK : ∀ fr σ', Kc (.ret (.bool true)) fr σ') :
    (wp Γ fuel).s ir_law [.unb, .box, .bld, .pile, .unb, .unb, .unb, .unb, .unb, .unb] σ Kc := by
  refine bC (fun fr AG => ∃ out e, fr = [.unb, .box, .bld, .pile, e, .unb, .unb, .unb, .unb, .unb] /\ J AG out 10 /\ out.length <= 2000) ?_ ?_
  . intro R hR _
    refine And.intro (⟨by decide, by decide⟩) ?_
    refine pI hc hs _ _ _ _ _ _ _ _ 10 0 σ [] _ (by decide) h (by decide) ?_
    intro σ' out' e h' ho'
    exact hR _ _ ⟨out', e, rfl, h', ho'⟩
  rintro fr AG ⟨out, e4, rfl, hG, ho⟩
  clear h
  have hsc := hG.rst.script
  have hpl : AG.pile.length = out.length := by rw [hG.pile, aQ]
  refine And.intro (by (rw [hpl]; lia)) ?_
  refine ht AG _ _ hG.rst.bi (by exact Nat.le_trans (by assumption) (Nat.le_add_left _ _)) (by (clear ho; simp)) ?_
  intro root j hr hr' hj
  refine ht _ _ _ hj (by show AG.script.length <= _; lia) (by decide) ?_
  intro how jG hh hh' hjG
  have hH : J (AG.uBi jG) out 10 := hG.bi hjG
  obtain ⟨m, hm, hmi, hpm⟩ := hG.min
  have key : ∃ (b f : Bool), (how % 2 == 1) = b /\ decide (how > 1) = f /\ 4 * (1 + how % 2 + how / 2) = (bE b f : Nat) := by
    have : how = 0 \/ how = 1 \/ how = 2 \/ how = 3 := by lia
    rcases this with e | e | e | e <;> subst e
    . exact ⟨false, false, rfl, rfl, rfl⟩
    . exact ⟨true, false, rfl, rfl, rfl⟩
    . exact ⟨false, true, rfl, rfl, rfl⟩
    . exact ⟨true, true, rfl, rfl, rfl⟩
  obtain ⟨b, f, hb, hf, hx⟩ := key
  have hbd := fin_bound hm b f root out
  have hmod := fin_mod hm b f root out
  obtain ⟨sp, o⟩ := hH.ok
  have hroot : root <= out.length := by lia
  refine bC (fun fr AH => fr = [.unb, .box, .bld, .pile, e4, .int root, .int how, .int m, .unb, .unb] /\ (AG.uBi jG) = AH) ?_ ?_
  . intro R hR _
    refine hR _ _ ⟨?_, rfl⟩
    show [AV.unb, .box, .bld, .pile, e4, .int root, .int how, .int AG.pmax, .unb, .unb] = _
    rw [hpm]
  rintro fr AH ⟨rfl, rfl⟩
  refine bC (fun fr AH => fr = [.unb, .box, .bld, .pile, e4, .int root, .int how, .int m, .unb, .unb] /\ ∃ sp, Ok AH sp (fin4 m b f root out) /\ AH.pile = toI out /\ AH.fin = true) ?_ ?_
  . intro R hR _
    refine And.intro (by decide) ?_
    cases b
    . refine ifF hb ?_
      cases f
      . refine ifF hf ?_
        refine hf0 _ _ sp out root m false o hr hroot hm hmi (by exact Nat.le_trans (by assumption) (Nat.le_add_left _ _)) ?_
        intro v σ' sp' F' o'
        exact hR _ _ ⟨rfl, sp', o', F'.pile.trans hG.pile, F'.fin⟩
      . refine ifT hf ?_
        refine hf0 _ _ sp out root m true o hr hroot hm hmi (by exact Nat.le_trans (by assumption) (Nat.le_add_left _ _)) ?_
        intro v σ' sp' F' o'
        exact hR _ _ ⟨rfl, sp', o', F'.pile.trans hG.pile, F'.fin⟩
    . refine ifT hb ?_
      cases f
      . refine ifF hf ?_
        refine hf1 _ _ sp out root m false o hr hroot hm hmi (by lia) ?_
        intro v σ' sp' F' o'
        exact hR _ _ ⟨rfl, sp', o', F'.pile.trans hG.pile, F'.fin⟩
      . refine ifT hf ?_
        refine hf1 _ _ sp out root m true o hr hroot hm hmi (by lia) ?_
        intro v σ' sp' F' o'
        exact hR _ _ ⟨rfl, sp', o', F'.pile.trans hG.pile, F'.fin⟩
  clear hH o sp hmi hpm hjG jG hr' hpl hsc hG AG hj j σ
  rintro fr σ ⟨rfl, sp, o, hpi, hfin⟩
  have hal := bR (size := m) (more := bE b f) (out := out) hm
  have hex : bE b f <= 12 := by unfold bE; split <;> split <;> lia
  refine bC (fun fr AH => fr = [.unb, .box, .bld, .pile, e4, .int root, .int how, .int m, .int (bE b f : Nat), .unb] /\ σ = AH) ?_ ?_
  . intro R hR _
    refine And.intro (by decide) ?_
    refine And.intro (⟨by decide, by decide⟩) ?_
    refine And.intro (⟨by decide, by (clear hx; lia)⟩) ?_
    refine hR _ _ ⟨?_, rfl⟩
    rw [<- hx]; rfl
  rintro fr AH ⟨rfl, rfl⟩
  refine bC (fun fr AH => fr = [.unb, .box, .bld, .pile, e4, .int root, .int how, .int m, .int (bE b f : Nat), .unb] /\ ∃ sp, Ok AH sp (fin4 m b f root out) /\ AH.pile = toI (al m (bE b f) out) /\ AH.fin = true) ?_ ?_
  . intro R hR _
    refine he σ _ out m (bE b f) hpi hm (by (generalize out.length = z0 at ho ⊢; generalize bE b f = z1 at hx ⊢; lia)) ?_
    exact hR _ _ ⟨rfl, sp, o.of rfl rfl, rfl, hfin⟩
  clear hpi hfin o sp σ
  rintro fr σ ⟨rfl, sp, o, hpi, hfin⟩
  refine bC (fun fr AH => fr = [.unb, .box, .bld, .pile, e4, .int root, .int how, .int m, .int (bE b f : Nat), .unb] /\ ∃ sp, Ok AH sp (fin4 m b f root out) /\ AH.pile = toI (fin2 m b f out) /\ AH.fin = true) ?_ ?_
  . intro R hR _
    cases f
    . refine ifF hf ?_
      exact hR _ _ ⟨rfl, sp, o, hpi, hfin⟩
    . refine ifT hf ?_
      refine he σ _ _ 4 4 hpi pw4 (by lia) ?_
      have hal' := bR (size := 4) (more := 4) (out := al m (bE b true) out) pw4
      refine And.intro (by decide) ?_
      refine And.intro (by show 4 + (toI _).length <= _; rw [aQ]; lia) ?_
      refine And.intro (rfl) ?_
      refine hR _ _ ⟨rfl, sp, o.of rfl rfl, ?_, hfin⟩
      show [80, 73, 76, 69] ++ toI _ = toI (mark ++ _)
      rw [bT]; rfl
  clear hpi hfin o sp σ
  rintro fr σ ⟨rfl, sp, o, hpi, hfin⟩
  have hal2 := bR (size := 4) (more := 0) (out := fin2 m b f out) pw4
  refine bC (fun fr AH => fr = [.unb, .box, .bld, .pile, e4, .int root, .int how, .int m, .int (bE b f : Nat), .unb] /\ ∃ sp, Ok AH sp (fin4 m b f root out) /\ AH.pile = toI (al 4 0 (fin2 m b f out)) /\ AH.fin = true) ?_ ?_
  . intro R hR _
    refine he σ _ _ 4 0 hpi pw4 (by (have q1 := hbd.1; clear hbd; (exact Nat.le_trans (by assumption) (by lia)))) ?_
    exact hR _ _ ⟨rfl, sp, o.of rfl rfl, rfl, hfin⟩
  clear hpi hfin o sp σ
  rintro fr σ ⟨rfl, sp, o, hpi, hfin⟩
  refine bC (fun fr AH => fr = [.unb, .box, .bld, .pile, e4, .int root, .int how, .int m, .int (bE b f : Nat), .unb] /\ ∃ sp, Ok AH sp (fin4 m b f root out) /\ AH.pile = toI (fin3 m b f root out) /\ AH.fin = true) ?_ ?_
  . intro R hR _
    have e : (σ.pile.length : Int) = (al 4 0 (fin2 m b f out)).length := by rw [hpi, aQ]
    refine And.intro (by (have q1 := hbd.1; have q2 := hal2.1; clear hbd hal2; lia)) ?_
    rw [e]
    refine ha σ _ _ _ 4 hpi (by exact Nat.le_add_left _ _) (by lia) ?_
    exact hR _ _ ⟨rfl, sp, o.of rfl rfl, rfl, hfin⟩
  clear hpi hfin o sp σ
  rintro fr σ ⟨rfl, sp, o, hpi, hfin⟩
  refine bC (fun fr AH => fr = [.unb, .box, .bld, .pile, e4, .int root, .int how, .int m, .int (bE b f : Nat), .unb] /\ ∃ sp, Ok AH sp (fin4 m b f root out) /\ AH.pile = toI (fin4 m b f root out) /\ AH.fin = true) ?_ ?_
  . intro R hR _
    refine And.intro (by decide) ?_
    cases b
    . refine ifF hb ?_
      exact hR _ _ ⟨rfl, sp, o, hpi, hfin⟩
    . refine ifT hb ?_
      have hal3 := bR (size := 4) (more := 0) (out := fin3 m true f root out) pw4
      refine he σ _ _ 4 0 hpi pw4 (by lia) ?_
      have e : ((toI (al 4 0 (fin3 m true f root out))).length : Int) = (al 4 0 (fin3 m true f root out)).length := by rw [aQ]
      refine And.intro (by show (toI _).length <= _; rw [aQ]; lia) ?_
      refine ha _ _ (al 4 0 (fin3 m true f root out)) _ 4 rfl (by exact Nat.le_add_left _ _) (by lia) ?_
      refine hR _ _ ⟨rfl, sp, o.of rfl rfl, ?_, hfin⟩
      show toI (aF 4 ((toI (al 4 0 (fin3 m true f root out))).length : Int) ++ _) = _
      rw [e]; rfl
  clear hpi hfin o sp σ
  rintro fr σ ⟨rfl, sp, o, hpi, hfin⟩
  refine hou σ _ sp _ o hfin ?_
  refine ⟨by lia, ?_⟩
  refine hs σ _ sp _ o hpi ?_
  refine ifT rfl ?_
  refine And.intro (⟨by rw [hpi, aQ]; lia, by rw [hpi]; exact toI_range _⟩) ?_
  refine ifT ?_ ?_
  . show decide (fin4 m b f root out = toB σ.pile) = true
    exact decide_eq_true (by rw [hpi, toB_toI])
  refine And.intro (by lia) ?_
  have := hm.pos
  refine ⟨by (have q1 := this.1; clear this; (exact Int.ofNat_lt.mpr (by assumption))), ?_⟩
  conv => whnf
  have e : (((fin4 m b f root out).length : Int) % (m : Int) == 0) = true := by
    rw [beq_iff_eq]; exact_mod_cast hmod
  rw [e]
  exact hK _ _
end Fb
set_option genInjectivity false
set_option genCtorIdx false
set_option genSizeOf false
namespace Fb
structure Ent where
  f : Addr
  names : List Str
  rest : List Str
  irs : List IS
  dav : Bool
noncomputable def Ent.davs (e : Ent) : List AV := if e.dav then [.none] else []
noncomputable def Ent.nv (e : Ent) : Nat := e.names.length - e.davs.length
noncomputable def ents : List Ent := [
  ⟨229, gL, gW, fH, false⟩,
  ⟨236, names_Write, rest_Write, ir_Write, false⟩,
  ⟨357, names_Output, rest_Output, ir_Output, false⟩,
  ⟨364, jY, lA, iU, false⟩,
  ⟨371, jX, lP, jK, false⟩,
  ⟨378, mQ, nF, lQ, false⟩,
  ⟨385, gE, iA, eT, false⟩,
  ⟨392, names_Head, rest_Head, ir_Head, false⟩,
  ⟨399, names_Offset, rest_Offset, ir_Offset, false⟩,
  ⟨406, names_Pad, rest_Pad, ir_Pad, false⟩,
  ⟨413, names_Prep, rest_Prep, ir_Prep, false⟩,
  ⟨420, cO, cS, bZ, false⟩,
  ⟨427, cQ, cT, bY, false⟩,
  ⟨434, jZ, lN, jN, false⟩,
  ⟨442, cV, nP, mI, true⟩,
  ⟨456, jQ, kD, gT, false⟩,
  ⟨463, fG, fJ, dV, false⟩,
  ⟨470, iT, kQ, gR, false⟩,
  ⟨477, fK, gK, eB, false⟩,
  ⟨484, dK, dU, cL, false⟩,
  ⟨491, names_Slot, rest_Slot, ir_Slot, false⟩,
  ⟨499, bO, jW, lK, false⟩,
  ⟨522, oS, rest_Prepend, pE, false⟩,
  ⟨529, dD, dT, dR, false⟩,
  ⟨613, eQ, fF, dJ, false⟩,
  ⟨620, jV, lO, jL, false⟩,
  ⟨627, kC, lI, iV, false⟩,
  ⟨641, gV, iY, gB, false⟩,
  ⟨648, iB, iQ, fR, false⟩,
  ⟨655, gZ, iW, fT, false⟩,
  ⟨662, jR, lB, iS, false⟩,
  ⟨669, iO, jU, gO, false⟩,
  ⟨676, iK, kA, gP, false⟩,
  ⟨683, iP, kE, gQ, false⟩,
  ⟨697, fM, gJ, eK, false⟩,
  ⟨704, names_Place, rest_Place, ir_Place, false⟩,
  ⟨718, gY, jF, fX, false⟩,
  ⟨725, gX, jD, fN, false⟩,
  ⟨749, lC, mK, kX, false⟩,
  ⟨756, gS, jA, iD, false⟩,
  ⟨763, lG, mT, kS, false⟩,
  ⟨770, iL, kI, gU, false⟩,
  ⟨777, mR, nU, mF, false⟩,
  ⟨782, nX, oO, mX, false⟩,
  ⟨789, kN, lH, jP, false⟩,
  ⟨796, nK, oP, nM, false⟩,
  ⟨801, nC, oN, nR, false⟩,
  ⟨806, jT, lM, iX, false⟩,
  ⟨811, kO, lF, jO, false⟩,
  ⟨818, mL, mY, lR, false⟩,
  ⟨825, mM, nI, lS, false⟩]
noncomputable def tab (f : Addr) : Option Ent := ents.find? fun e => e.f == f
noncomputable def finS (b : Bool) (S : Fn) : Fn := fun vs σ K => match vs with
  | [.bld, r, fi] => S [.bld, r, .bool b, fi] σ K
  | _ => False
noncomputable def u8S (S : Fn) : Fn := fun vs σ K => match vs with
  | [.bld, a, x, d] => S [.bld, .cst (.ref 84), a, x, d] σ fun _ σ' => K .none σ'
  | _ => False
noncomputable def odd (Γ : Fns) (f : Addr) : Fn := if f = 507 then finS false (Γ 499) else if f = 515 then finS true (Γ 499) else if f = 550 then u8S (Γ 529) else fun _ _ _ => False
noncomputable def Gam : Nat -> Fns
  | 0 => fun _ _ _ _ => False
  | n + 1 => fun f => match tab f with
    | some e => aR (Gam n) fuel e.irs e.nv e.davs e.rest.length
    | none => odd (Gam n) f
structure EntOk (K : Frag) (e : Ent) : Prop where
  chk : chkFn K e.f e.names e.rest e.irs = true
  bind : ∀ fd, fnOf K e.f = some fd -> ∀ (s : Shared) (vals : List Value), K.In s.heap -> vals.length = e.nv -> BindsTo s fd ⟨vals, []⟩ (e.names.zip (vals ++ if e.dav then [.none] else []))
structure Leaf (prog : Program) (w : World) (g : Heap) (K : Frag) : Prop where
  T : Stat K g
  KF : KFacts K
  bfs : ∀ lev, BifOk prog w g lev
  pk : ∀ lev, PackOk prog w g lev
  pm : PackMeth prog w g
  bs : ∀ lev, BslOk prog w g lev
  nb : ∀ lev, NewTb prog w lev
  sb : ∀ lev, SetB prog w lev
theorem nd_ents : ents.all (fun e => decide (e.names ++ e.rest).Nodup && decide (e.davs.length <= e.names.length)) = true := by kernel_rfl
set_option tactic.hygienic true in
theorem fnAt_ent {K : Frag} {e : Ent} (h : EntOk K e) (hd : e.davs.length <= e.names.length) : ∃ body scope, FnAt K e.f body scope e.names e.nv e.davs /\ dC (chkS 30 (e.names ++ e.rest) scope) body e.irs = true := by
  have hc := h.chk
  unfold chkFn at hc
  split at hc
  . rename_i fd hfd
    simp only [Bool.and_eq_true, beq_iff_eq, Bool.not_eq_true', List.all_eq_true] at hc
    refine bcn fun nG => ?_; obtain ⟨⟨⟨⟨⟨⟨⟨⟨h1, h2⟩, h3⟩, h4⟩, h5⟩, h6⟩, h7⟩, h8⟩, h9⟩ := hc
    have hfd' := hfd
    refine nG ?_; unfold fnOf at hfd
    split at hfd
    . rename_i o ho
      split at hfd
      . rename_i fd' hdd
        cases hfd
        split at h1
        . rename_i b hbody
          refine ⟨b, fd.scope, ⟨⟨o, fd, ho, hdd, rfl, hbody, h2, h3, by simpa using h4, fun hp X => code_of h9 hp X, fun s vals X hl => ⟨if e.dav then [.none] else [], ?_, h.bind fd hfd' s vals X hl, fun ρ σ h => ?_⟩⟩, h5, h6, h7, fun x hx => ?_, ?_⟩, h1⟩
          . unfold Ent.davs; split <;> rfl
          . unfold Ent.davs; split
            . exact .cons .none .nil
            . exact .nil
          . have := h8 x hx
            unfold KindOk
            induction hq : fd.scope.names.lookup x using Option.casesOn with
            | none => rw [hq] at this; exact ff this
            | some k => rw [hq] at this; induction k using NameKind.casesOn <;> first | exact .inl rfl | exact .inr rfl | cases this
          . unfold Ent.nv; (exact (Nat.sub_add_cancel (by assumption)).symm)
        . exact ff h1
      . exact nn hfd
    . exact nn hfd
  . exact ff hc
theorem fun_ent {prog : Program} {w : World} {g : Heap} {K : Frag} {Γ : Fns} {lev : Nat} (L : Leaf prog w g K) {e : Ent} (he : e ∈ ents) (h : EntOk K e) (hΓ : GV prog w g lev Γ) : FunOk prog w g (lev + 1) e.f (aR Γ fuel e.irs e.nv e.davs e.rest.length) := by
  have hn := List.all_eq_true.mp nd_ents e he
  simp only [Bool.and_eq_true, decide_eq_true_eq] at hn
  refine bcn fun nG => ?_; obtain ⟨body, scope, zq0⟩ := fnAt_ent h hn.2; have hF := zq0.1; have hc := zq0.2
  refine nG ?_; exact fn_entry L.T hF hn.1 hc (wp_sound L.T L.KF hΓ (L.bfs lev) (L.pk lev) L.pm (L.bs lev) (L.nb lev) (L.sb lev) hn.1 fuel).2.2
end Fb
namespace Fb
theorem aO {n : Nat} {f : Addr} {e : Ent} (h : tab f = some e) : Gam (n + 1) f = aR (Gam n) fuel e.irs e.nv e.davs e.rest.length := by
  show (match tab f with | some e => _ | none => _) = _
  rw [h]
theorem gam_odd {n : Nat} {f : Addr} (h : tab f = none) : Gam (n + 1) f = odd (Gam n) f := by
  show (match tab f with | some e => _ | none => _) = _
  rw [h]
section
variable (n : Nat)
theorem g229 : SEnf (Gam (n + 1) 229) := by rw [aO (e := ⟨229, gL, gW, fH, false⟩) (by rfl)]; exact enf_ok
theorem g236 : SWrite (Gam (n + 1) 236) := by rw [aO (e := ⟨236, names_Write, rest_Write, ir_Write, false⟩) (by rfl)]; exact write_ok
theorem g392 : SHead (Gam (n + 1) 392) := by rw [aO (e := ⟨392, names_Head, rest_Head, ir_Head, false⟩) (by rfl)]; exact head_ok
theorem g399 : SOffset (Gam (n + 1) 399) := by rw [aO (e := ⟨399, names_Offset, rest_Offset, ir_Offset, false⟩) (by rfl)]; exact offset_ok
theorem g470 : SNest true (Gam (n + 1) 470) := by rw [aO (e := ⟨470, iT, kQ, gR, false⟩) (by rfl)]; exact nested_ok
theorem g477 : SNest false (Gam (n + 1) 477) := by rw [aO (e := ⟨477, fK, gK, eB, false⟩) (by rfl)]; exact notNested_ok
theorem g406 : SPad (Gam (n + 1) 406) := by rw [aO (e := ⟨406, names_Pad, rest_Pad, ir_Pad, false⟩) (by rfl)]; exact pad_ok
theorem g385 : SGrow (Gam (n + 1) 385) := by rw [aO (e := ⟨385, gE, iA, eT, false⟩) (by rfl)]; exact grow_ok
theorem g749 : SKinds (Gam (n + 1) 749) := by rw [aO (e := ⟨749, lC, mK, kX, false⟩) (by rfl)]; exact kinds_ok
theorem g756 : STake (Gam (n + 1) 756) := by rw [aO (e := ⟨756, gS, jA, iD, false⟩) (by rfl)]; exact take_ok
theorem g777 : SEven (Gam (n + 1) 777) := by rw [aO (e := ⟨777, mR, nU, mF, false⟩) (by rfl)]; exact even_ok
theorem g782 : SAdd (Gam (n + 1) 782) := by rw [aO (e := ⟨782, nX, oO, mX, false⟩) (by rfl)]; exact add_ok
theorem g357 : SOutput (Gam (n + 1) 357) := by rw [aO (e := ⟨357, names_Output, rest_Output, ir_Output, false⟩) (by rfl)]; exact output_ok
theorem g704 : SPlace (Gam (n + 2) 704) := by rw [aO (e := ⟨704, names_Place, rest_Place, ir_Place, false⟩) (by rfl)]; exact place_ok (g229 (n + 0)) (g236 (n + 0))
theorem g413 : SPrep (Gam (n + 2) 413) := by rw [aO (e := ⟨413, names_Prep, rest_Prep, ir_Prep, false⟩) (by rfl)]; exact prep_ok (g385 (n + 0)) (g406 (n + 0))
theorem g718 : SPlaceW (-2147483648) 2147483647 (Gam (n + 2) 718) := by rw [aO (e := ⟨718, gY, jF, fX, false⟩) (by rfl)]; exact placeS_ok (g229 (n + 0)) (g236 (n + 0))
theorem g725 : SPlaceW 0 4294967295 (Gam (n + 2) 725) := by rw [aO (e := ⟨725, gX, jD, fN, false⟩) (by rfl)]; exact placeU_ok (g229 (n + 0)) (g236 (n + 0))
theorem g491 : SSlot (Gam (n + 2) 491) := by rw [aO (e := ⟨491, names_Slot, rest_Slot, ir_Slot, false⟩) (by rfl)]; exact slot_ok (g470 (n + 0)) (g399 (n + 0))
theorem g364 : SStartObj (Gam (n + 2) 364) := by rw [aO (e := ⟨364, jY, lA, iU, false⟩) (by rfl)]; exact startObj_ok (g477 (n + 0)) (g399 (n + 0))
theorem g484 : SInline (Gam (n + 2) 484) := by rw [aO (e := ⟨484, dK, dU, cL, false⟩) (by rfl)]; exact inline_ok (g229 (n + 0)) (g399 (n + 0))
theorem g763 : SValue (Gam (n + 2) 763) := by rw [aO (e := ⟨763, lG, mT, kS, false⟩) (by rfl)]; exact value_ok (g749 (n + 0)) (g756 (n + 0))
theorem g789 : SNum (Gam (n + 2) 789) := by rw [aO (e := ⟨789, kN, lH, jP, false⟩) (by rfl)]; exact num_ok (g749 (n + 0)) (g777 (n + 0)) (g782 (n + 0))
theorem g825 : SLSame (Gam (n + 2) 825) := by rw [aO (e := ⟨825, mM, nI, lS, false⟩) (by rfl)]; exact lsame_ok (g399 (n + 0)) (g392 (n + 0))
theorem g522 : SPrepend (Gam (n + 3) 522) := by rw [aO (e := ⟨522, oS, rest_Prepend, pE, false⟩) (by rfl)]; exact prepend_ok (g413 (n + 0)) (g704 (n + 0))
theorem g420 : SWay (Gam (n + 3) 420) := by rw [aO (e := ⟨420, cO, cS, bZ, false⟩) (by rfl)]; exact wayS_ok (g413 (n + 0)) (g399 (n + 1)) (g718 (n + 0))
theorem g427 : SWay (Gam (n + 3) 427) := by rw [aO (e := ⟨427, cQ, cT, bY, false⟩) (by rfl)]; exact wayU_ok (g413 (n + 0)) (g399 (n + 1)) (g725 (n + 0))
theorem g434 : SStart (Gam (n + 3) 434) := by rw [aO (e := ⟨434, jZ, lN, jN, false⟩) (by rfl)]; exact start_ok (g477 (n + 1)) (g413 (n + 0)) (g399 (n + 1))
theorem g442 : SEnd (Gam (n + 3) 442) := by rw [aO (e := ⟨442, cV, nP, mI, true⟩) (by rfl)]; exact end_ok (g470 (n + 1)) (g725 (n + 0)) (g399 (n + 1))
theorem g613 : SStructSlot (Gam (n + 3) 613) := by rw [aO (e := ⟨613, eQ, fF, dJ, false⟩) (by rfl)]; exact structSlot_ok (g229 (n + 1)) (g484 (n + 0)) (g491 (n + 0))
theorem g620 : SPreX 70 (Gam (n + 4) 620) := by rw [aO (e := ⟨620, jV, lO, jL, false⟩) (by rfl)]; exact preBool_ok (g522 (n + 0))
theorem g627 : SPreX 84 (Gam (n + 4) 627) := by rw [aO (e := ⟨627, kC, lI, iV, false⟩) (by rfl)]; exact preByte_ok (g522 (n + 0))
theorem g641 : SPreX 98 (Gam (n + 4) 641) := by rw [aO (e := ⟨641, gV, iY, gB, false⟩) (by rfl)]; exact preU16_ok (g522 (n + 0))
theorem g648 : SPreX 112 (Gam (n + 4) 648) := by rw [aO (e := ⟨648, iB, iQ, fR, false⟩) (by rfl)]; exact preU32_ok (g522 (n + 0))
theorem g655 : SPreX 126 (Gam (n + 4) 655) := by rw [aO (e := ⟨655, gZ, iW, fT, false⟩) (by rfl)]; exact preU64_ok (g522 (n + 0))
theorem g662 : SPreX 140 (Gam (n + 4) 662) := by rw [aO (e := ⟨662, jR, lB, iS, false⟩) (by rfl)]; exact preI8_ok (g522 (n + 0))
theorem g669 : SPreX 154 (Gam (n + 4) 669) := by rw [aO (e := ⟨669, iO, jU, gO, false⟩) (by rfl)]; exact preI16_ok (g522 (n + 0))
theorem g676 : SPreX 168 (Gam (n + 4) 676) := by rw [aO (e := ⟨676, iK, kA, gP, false⟩) (by rfl)]; exact preI32_ok (g522 (n + 0))
theorem g683 : SPreX 182 (Gam (n + 4) 683) := by rw [aO (e := ⟨683, iP, kE, gQ, false⟩) (by rfl)]; exact preI64_ok (g522 (n + 0))
theorem g697 : SPreX 220 (Gam (n + 4) 697) := by rw [aO (e := ⟨697, fM, gJ, eK, false⟩) (by rfl)]; exact preV_ok (g522 (n + 0))
theorem g529 : SPreSlot (Gam (n + 4) 529) := by rw [aO (e := ⟨529, dD, dT, dR, false⟩) (by rfl)]; exact preSlot_ok (g229 (n + 2)) (g522 (n + 0)) (g491 (n + 1))
theorem g456 : SCreate [0] (Gam (n + 4) 456) := by rw [aO (e := ⟨456, jQ, kD, gT, false⟩) (by rfl)]; exact text_ok (g477 (n + 2)) (g413 (n + 1)) (g704 (n + 1)) (g442 (n + 0))
theorem g463 : SCreate [] (Gam (n + 4) 463) := by rw [aO (e := ⟨463, fG, fJ, dV, false⟩) (by rfl)]; exact octets_ok (g477 (n + 2)) (g413 (n + 1)) (g442 (n + 0))
theorem g770 : SLPre (Gam (n + 5) 770) := by rw [aO (e := ⟨770, iL, kI, gU, false⟩) (by rfl)]; exact lpre_ok (g620 (n + 0)) (g627 (n + 0)) (g641 (n + 0)) (g648 (n + 0)) (g655 (n + 0)) (g662 (n + 0)) (g669 (n + 0)) (g676 (n + 0)) (g683 (n + 0))
theorem g499 : SFin (Gam (n + 5) 499) := by rw [aO (e := ⟨499, bO, jW, lK, false⟩) (by rfl)]; exact fin_ok (g229 (n + 3)) (g413 (n + 2)) (g704 (n + 2)) (g427 (n + 1)) (g676 (n + 0))
theorem g371 : SVtab (Gam (n + 5) 371) := by rw [aO (e := ⟨371, jX, lP, jK, false⟩) (by rfl)]; exact vtab_ok (g420 (n + 1)) (g399 (n + 3)) (g697 (n + 0)) (g236 (n + 3))
theorem g796 : SLWay (Gam (n + 5) 796) := by rw [aO (e := ⟨796, nK, oP, nM, false⟩) (by rfl)]; exact lway_ok (g756 (n + 3)) (g697 (n + 0)) (g789 (n + 2)) (g420 (n + 1)) (g427 (n + 1)) (g777 (n + 3)) (g782 (n + 3))
theorem g806 : SLOct (Gam (n + 5) 806) := by rw [aO (e := ⟨806, jT, lM, iX, false⟩) (by rfl)]; exact loct_ok (g756 (n + 3)) (g456 (n + 0)) (g463 (n + 0)) (g777 (n + 3)) (g782 (n + 3))
theorem g550 : SU8Slot (Gam (n + 5) 550) := by
  rw [gam_odd (by rfl)]
  intro σ K sp out k l x h1 h2 h3 h4 h5 h6 h7 h8 h9
  exact (g529 (n + 0)) σ _ sp out k l x h1 h2 h3 h4 h5 h6 h7 h8 h9
theorem g378 : SEndObj (Gam (n + 6) 378) := by rw [aO (e := ⟨378, mQ, nF, lQ, false⟩) (by rfl)]; exact endObj_ok (g470 (n + 4)) (g371 (n + 0))
theorem g801 : SLRow (Gam (n + 6) 801) := by rw [aO (e := ⟨801, nC, oN, nR, false⟩) (by rfl)]; exact lrow_ok (g756 (n + 4)) (g749 (n + 4)) (g763 (n + 3)) (g434 (n + 2)) (g777 (n + 4)) (g770 (n + 0)) (g789 (n + 3)) (g442 (n + 2)) (g782 (n + 4))
theorem g507 : SFinX false (Gam (n + 6) 507) := by
  rw [gam_odd (by rfl)]
  intro σ K sp out root m f h1 h2 h3 h4 h5 h6 h7
  exact (g499 (n + 0)) σ K sp out root m false f h1 h2 h3 h4 h5 h6 h7
theorem g515 : SFinX true (Gam (n + 6) 515) := by
  rw [gam_odd (by rfl)]
  intro σ K sp out root m f h1 h2 h3 h4 h5 h6 h7
  exact (g499 (n + 0)) σ K sp out root m true f h1 h2 h3 h4 h5 h6 h7
theorem g811 : SLObj (Gam (n + 7) 811) := by rw [aO (e := ⟨811, kO, lF, jO, false⟩) (by rfl)]; exact lobj_ok (g763 (n + 4)) (g364 (n + 4)) (g413 (n + 4)) (g406 (n + 5)) (g669 (n + 2)) (g683 (n + 2)) (g399 (n + 5)) (g613 (n + 3)) (g777 (n + 5)) (g782 (n + 5)) (g756 (n + 5)) (g550 (n + 1)) (g378 (n + 0))
theorem g818 : SLCall (Gam (n + 8) 818) := by rw [aO (e := ⟨818, mL, mY, lR, false⟩) (by rfl)]; exact lcall_ok (g756 (n + 6)) (g763 (n + 5)) (g413 (n + 5)) (g406 (n + 6)) (g704 (n + 5)) (g777 (n + 6)) (g782 (n + 6)) (g770 (n + 2)) (g789 (n + 5)) (g796 (n + 2)) (g801 (n + 1)) (g806 (n + 2)) (g811 (n + 0))
end
theorem tail_ok (n : Nat) {σ : St} {Kc : Fl -> List AV -> St -> Prop} (h : J σ [] 0) (hK : ∀ fr σ', Kc (.ret (.bool true)) fr σ') :
    (wp (Gam (n + 8)) fuel).s ir_law [.unb, .box, .bld, .pile, .unb, .unb, .unb, .unb, .unb, .unb] σ Kc :=
  law_tail (g818 (n + 0)) (g825 (n + 6)) (g756 (n + 7)) (g507 (n + 2)) (g515 (n + 2)) (g777 (n + 7)) (g782 (n + 7)) (g357 (n + 7)) h hK
end Fb
namespace Fb
open PySem.Builtin PySem.Builtin.Struct
theorem iF : typeLookup (.type "bytearray") "__buffer__" = pure (some (.builtin "bytearray.__buffer__")) := by rw [typeLookup_type, builtinLookup_eq_fast]; kernel_rfl
theorem entry_pack : entryFor table "_struct.Struct.pack_into" = some Builtin.«_struct.Struct.pack_into» := entryFor_of_tree (by kernel_rfl)
theorem entry_held : entryFor table "_struct.pack_into.held" = some Builtin.«_struct.pack_into.held» := entryFor_of_tree (by kernel_rfl)
theorem owner_st : Manifest.owners.lookup (String.ofList "tcurtS.tcurts_".toList.reverse) = some Manifest.sig__struct_Struct := by kernel_rfl
theorem args_pack (a b c d : Value) : argsOk "_struct.Struct.pack_into" ⟨[a, b, c, d], []⟩ := by
  unfold argsOk; rw [signature?_of (id := "_struct.Struct.pack_into") (n := "otni_kcap".toList) (o := "tcurtS.tcurts_".toList) (by kernel_rfl) owner_st]; kernel_rfl
noncomputable def fmtB : Addr -> Array UInt8
  | 52 => #[63] | 53 => #[60, 66] | 54 => #[60, 72] | 55 => #[60, 73] | 56 => #[60, 81] | 57 => #[60, 98] | 58 => #[60, 104] | 59 => #[60, 105] | _ => #[60, 113]
noncomputable def fmtF : Addr -> Format
  | 52 => ⟨false, true, [⟨'?', 1, 0, 1⟩], 1, 1⟩ | 53 => ⟨false, false, [⟨'B', 1, 0, 1⟩], 1, 1⟩ | 54 => ⟨false, false, [⟨'H', 1, 0, 2⟩], 2, 1⟩ | 55 => ⟨false, false, [⟨'I', 1, 0, 4⟩], 4, 1⟩ | 56 => ⟨false, false, [⟨'Q', 1, 0, 8⟩], 8, 1⟩
  | 57 => ⟨false, false, [⟨'b', 1, 0, 1⟩], 1, 1⟩ | 58 => ⟨false, false, [⟨'h', 1, 0, 2⟩], 2, 1⟩ | 59 => ⟨false, false, [⟨'i', 1, 0, 4⟩], 4, 1⟩ | _ => ⟨false, false, [⟨'q', 1, 0, 8⟩], 8, 1⟩
theorem parse_52 : parse (fmtB 52) = pure (fmtF 52) := by kernel_rfl
theorem parse_53 : parse (fmtB 53) = pure (fmtF 53) := by kernel_rfl
theorem parse_54 : parse (fmtB 54) = pure (fmtF 54) := by kernel_rfl
theorem parse_55 : parse (fmtB 55) = pure (fmtF 55) := by kernel_rfl
theorem parse_56 : parse (fmtB 56) = pure (fmtF 56) := by kernel_rfl
theorem parse_57 : parse (fmtB 57) = pure (fmtF 57) := by kernel_rfl
theorem parse_58 : parse (fmtB 58) = pure (fmtF 58) := by kernel_rfl
theorem parse_59 : parse (fmtB 59) = pure (fmtF 59) := by kernel_rfl
theorem parse_60 : parse (fmtB 60) = pure (fmtF 60) := by kernel_rfl
theorem asIndex_int (i : Int) (t : Tok) : asIndex (.int i t) = pure i := by rfl
theorem range1 {β : Type} (init : β) (f : Nat -> β -> Sem (ForInStep β)) : (forIn [:1] init f : Sem β) = (f 0 init >>= fun r => match r with | .done b => pure b | .yield b => pure b) := by
  rw [Std.Legacy.Range.forIn_eq_forIn_range']
  rfl
theorem each_pre : ∃ one : String -> Format -> Struct.Code -> Value -> Sem (Array UInt8),
    (∀ {M : Model} {A : Around} {E : Value -> Shared -> Prop} {s : Shared} {id : String} {nat : Bool} {ch : Char} {sz al : Nat} {x : Value} {put : Unit -> Nat -> Array UInt8 -> Sem Unit} {src : Value -> Nat -> Nat -> Sem Unit} {Q : Unit -> Shared -> Prop}, (ch == 'x') = false -> (ch == 's' || ch == 'p') = false ->
      wpAny M A (one id ⟨false, nat, [⟨ch, 1, 0, sz⟩], al, 1⟩ ⟨ch, 1, 0, sz⟩ x) (fun raw s' => wpAny M A (put () 0 raw) (fun _ s'' => Q () s'') E s') E s -> wpAny M A (packEach id ⟨false, nat, [⟨ch, 1, 0, sz⟩], al, 1⟩ [x] () put src) Q E s) /\
    (∀ {M : Model} {A : Around} {E : Value -> Shared -> Prop} {s : Shared} {id : String} {f : Addr} {sz : Nat} {lo hi i : Int} {t : Tok} {Q : Array UInt8 -> Shared -> Prop}, fL f = some (sz, some (lo, hi)) -> lo <= i -> i <= hi -> Q (intBytes false sz i) s -> wpAny M A (one id (fmtF f) ((fmtF f).codes.headD ⟨'x', 0, 0, 0⟩) (.int i t)) Q E s) /\
    (∀ {M : Model} {A : Around} {E : Value -> Shared -> Prop} {s : Shared} {id : String} {b : Bool} {Q : Array UInt8 -> Shared -> Prop}, Q #[if b then 1 else 0] s -> wpAny M A (one id (fmtF 52) ⟨'?', 1, 0, 1⟩ (.bool b)) Q E s) := by
  apply Exists.intro
  refine ⟨?_, ?_, ?_⟩
  . intro M A E s id nat ch sz al x put src Q hx hs h
    unfold packEach
    simp only [List.forIn_cons, List.forIn_nil, range1]
    first | refine Fb.aT (by rw [hx]; exact Bool.false_ne_true) ?_ | refine Fb.cZ (by rw [hx]; exact Bool.false_ne_true) ?_ | rw [if_neg (by rw [hx]; exact Bool.false_ne_true)]
    first | refine Fb.aT (by rw [hs]; exact Bool.false_ne_true) ?_ | refine Fb.cZ (by rw [hs]; exact Bool.false_ne_true) ?_ | rw [if_neg (by rw [hs]; exact Bool.false_ne_true)]
    refine wpAny_bind (wpAny_bind (wpAny_bind (wpAny_bind (wpAny_bind (wpAny_mono h (fun raw s' hq => ?_) fun _ _ x => x)))))
    rw [Nat.zero_mul]
    refine wpAny_bind (wpAny_mono hq (fun _ s'' hz => ?_) fun _ _ x => x)
    exact wpAny_pure (wpAny_pure (wpAny_pure (wpAny_pure (wpAny_pure hz))))
  . intro M A E s id f sz lo hi i t Q hf h0 h1 hQ
    have tail : ∀ {l h : Int} {raw : Array UInt8} {e : Sem (Array UInt8)}, l <= i -> i <= h -> Q raw s -> wpAny M A (if (decide (i < l) || decide (i > h)) = true then e else pure raw) Q E s := fun a b c => by
      first | refine Fb.aT (by rw [decide_eq_false (by omega), decide_eq_false (by omega)]; exact Bool.false_ne_true) ?_ | refine Fb.cZ (by rw [decide_eq_false (by omega), decide_eq_false (by omega)]; exact Bool.false_ne_true) ?_ | rw [if_neg (by rw [decide_eq_false (by omega), decide_eq_false (by omega)]; exact Bool.false_ne_true)]
      exact wpAny_pure c
    have at_ : ∀ {R : Prop} {sz' : Nat} {l h : Int}, ((sz', some (l, h)) : Nat × Option (Int × Int)) = (sz, some (lo, hi)) -> (l <= i -> i <= h -> Q (intBytes false sz' i) s -> R) -> R := fun e k => by
      cases e; exact k h0 h1 hQ
    refine (fun y hy e => ?_ : ∀ y, fL f = some y -> y = (sz, some (lo, hi)) -> _) _ hf rfl
    revert e
    refine fmtOf_ind hy (fun e => nomatch (congrArg Prod.snd e)) ?_ ?_ ?_ ?_ ?_ ?_ ?_ ?_
    . refine fun e => at_ e fun a b c => wpAny_bind (wpAny_of_eq (a := .ok i) rfl ?_)
      exact tail a b c
    . refine fun e => at_ e fun a b c => wpAny_bind (wpAny_of_eq (a := .ok i) rfl ?_)
      exact tail a b c
    . refine fun e => at_ e fun a b c => wpAny_bind (wpAny_of_eq (a := .ok i) rfl ?_)
      exact tail a b c
    . refine fun e => at_ e fun a b c => wpAny_bind (wpAny_of_eq (a := .ok i) rfl ?_)
      exact tail a b c
    . refine fun e => at_ e fun a b c => wpAny_bind (wpAny_of_eq (a := .ok i) rfl ?_)
      exact tail a b c
    . refine fun e => at_ e fun a b c => wpAny_bind (wpAny_of_eq (a := .ok i) rfl ?_)
      exact tail a b c
    . refine fun e => at_ e fun a b c => wpAny_bind (wpAny_of_eq (a := .ok i) rfl ?_)
      exact tail a b c
    . refine fun e => at_ e fun a b c => wpAny_bind (wpAny_of_eq (a := .ok i) rfl ?_)
      exact tail a b c
  . intro M A E s id b Q hQ
    exact wpAny_bind (wpAny_of_eq (a := .ok b) rfl (wpAny_pure hQ))
theorem each_52 {A : Around} {E : Value -> Shared -> Prop} {s : Shared} {id : String} {b : Bool} {put : Unit -> Nat -> Array UInt8 -> Sem Unit} {src : Value -> Nat -> Nat -> Sem Unit} {M : Model} {Q : Unit -> Shared -> Prop} (h : wpAny M A (put () 0 #[if b then 1 else 0]) (fun _ s' => Q () s') E s) :
    wpAny M A (packEach id (fmtF 52) [.bool b] () put src) Q E s := by
  refine bcn fun nG => ?_; obtain ⟨one, h1, h2, h3⟩ := each_pre
  refine nG ?_; exact h1 (by decide) (by decide) (h3 h)
theorem each_any {A : Around} {E : Value -> Shared -> Prop} {s : Shared} {id : String} {f : Addr} {sz : Nat} {lo hi i : Int} {t : Tok} {put : Unit -> Nat -> Array UInt8 -> Sem Unit} {src : Value -> Nat -> Nat -> Sem Unit} {M : Model} {Q : Unit -> Shared -> Prop} (hf : fL f = some (sz, some (lo, hi))) (h0 : lo <= i) (h1 : i <= hi) (h : wpAny M A (put () 0 (intBytes false sz i)) (fun _ s' => Q () s') E s) :
    wpAny M A (packEach id (fmtF f) [.int i t] () put src) Q E s := by
  refine bcn fun nG => ?_; obtain ⟨one, q1, q2, q3⟩ := each_pre
  have h' := q2 (t := t) (id := id) (M := M) (A := A) (E := E) (s := s) (Q := fun raw s' => wpAny M A (put () 0 raw) (fun _ s'' => Q () s'') E s') hf h0 h1 h
  refine nG ?_; revert h'
  have q : ∀ {ch : Char} {nat : Bool} {al z : Nat}, (ch == 'x') = false -> (ch == 's' || ch == 'p') = false -> wpAny M A (one id ⟨false, nat, [⟨ch, 1, 0, z⟩], al, 1⟩ ⟨ch, 1, 0, z⟩ (.int i t)) (fun raw s' => wpAny M A (put () 0 raw) (fun _ s'' => Q () s'') E s') E s -> wpAny M A (packEach id ⟨false, nat, [⟨ch, 1, 0, z⟩], al, 1⟩ [.int i t] () put src) Q E s := q1
  exact jI (P := fun x => wpAny M A (one id (fmtF x.1) ((fmtF x.1).codes.headD ⟨'x', 0, 0, 0⟩) (.int i t)) (fun raw s' => wpAny M A (put () 0 raw) (fun _ s'' => Q () s'') E s') E s -> wpAny M A (packEach id (fmtF x.1) [.int i t] () put src) Q E s) hf
    (q (by decide) (by decide)) (q (by decide) (by decide)) (q (by decide) (by decide)) (q (by decide) (by decide)) (q (by decide) (by decide)) (q (by decide) (by decide)) (q (by decide) (by decide)) (q (by decide) (by decide)) (q (by decide) (by decide))
theorem byte_k (i : Int) (k m : Nat) : (i % ((256 ^ (k + (m + 1)) : Nat) : Int)).toNat / 256 ^ k % 256 = (i / ((256 ^ k : Nat) : Int) % 256).toNat := by
  have hp : 0 < 256 ^ (k + (m + 1)) := Nat.pow_pos (by decide)
  have hk : 0 < 256 ^ k := Nat.pow_pos (by decide)
  have e : ((256 ^ (k + (m + 1)) : Nat) : Int) = ((256 ^ k : Nat) : Int) * (256 * ((256 ^ m : Nat) : Int)) := by
    rw [Nat.pow_add, Nat.pow_succ, Nat.mul_comm (256 ^ m)]
    simp [Int.natCast_mul]
  have h0 : 0 <= i % ((256 ^ (k + (m + 1)) : Nat) : Int) := Int.emod_nonneg _ (by omega)
  apply Int.ofNat.inj
  show (((i % ((256 ^ (k + (m + 1)) : Nat) : Int)).toNat / 256 ^ k % 256 : Nat) : Int) = ((i / ((256 ^ k : Nat) : Int) % 256).toNat : Int)
  rw [Int.toNat_of_nonneg (Int.emod_nonneg _ (by decide)), Int.natCast_emod, Int.natCast_ediv, Int.toNat_of_nonneg h0, e, Int.emod_def i (_ * _)]
  generalize i / (((256 ^ k : Nat) : Int) * (256 * ((256 ^ m : Nat) : Int))) = q
  rw [Int.mul_assoc, Int.mul_assoc, Int.sub_eq_add_neg, <- Int.mul_neg, Int.add_mul_ediv_left _ _ (by omega), <- Int.mul_neg]
  exact Int.add_mul_emod_self_left _ _ _
theorem le_gen (i : Int) (n : Nat) : ∀ k r, n = k + r -> ((List.range' k r).map fun j => ((i % ((256 ^ n : Nat) : Int)).toNat / 256 ^ j % 256).toUInt8) = aF r (i / ((256 ^ k : Nat) : Int))
  | k, 0, _ => rfl
  | k, r + 1, h => by
    subst h
    have e : i / ((256 ^ (k + 1) : Nat) : Int) = i / ((256 ^ k : Nat) : Int) / 256 := by
      rw [Nat.pow_succ, Int.natCast_mul, Int.ediv_ediv_of_nonneg (Int.natCast_nonneg _)]; rfl
    have h2 := le_gen i (k + (r + 1)) (k + 1) r (by omega)
    rw [e] at h2
    exact congr (congrArg List.cons (congrArg Nat.toUInt8 (byte_k i k r))) h2
theorem le_any (n : Nat) (i : Int) : (intBytes false n i).toList = aF n i := by
  have h := le_gen i n 0 n (Nat.zero_add n).symm
  rw [Nat.pow_zero, Int.natCast_one, Int.ediv_one] at h
  show ((List.range n).map fun k => ((i % 2 ^ (8 * n)).toNat / 256 ^ k % 256).toUInt8) = _
  rw [List.range_eq_range', show ((2 : Int) ^ (8 * n)) = ((256 ^ n : Nat) : Int) by rw [Int.natCast_pow, Int.pow_mul]; rfl]
  exact h
theorem place_list : ∀ (raw : List UInt8) (l : List UInt8) (p k : Nat), p + k + raw.length <= l.length -> ((raw.zipIdx k).foldl (fun (out : Array UInt8) (x : UInt8 × Nat) => out.setIfInBounds (p + x.2) x.1) l.toArray).toList = aN l (p + k) raw
  | [], l, p, k, h => by
    unfold aN; simp
  | c :: cs, l, p, k, h => by
    rw [List.length_cons] at h
    rw [List.zipIdx_cons, List.foldl_cons]
    have e : l.toArray.setIfInBounds (p + k) c = (l.set (p + k) c).toArray := by simp
    show (List.foldl _ (l.toArray.setIfInBounds (p + k) c) _).toList = _
    rw [e, place_list cs (l.set (p + k) c) p (k + 1) (by rw [List.length_set]; lia)]
    unfold aN
    rw [List.take_set, List.drop_set_of_lt (by exact Nat.le_add_right _ _)]
    have h1 : (l.take (p + (k + 1))).set (p + k) c = l.take (p + k) ++ [c] := by
      rw [show p + (k + 1) = p + k + 1 by (exact Int.toNat_natCast _), List.take_add_one, List.getElem?_eq_getElem (by lia)]
      have : (l.take (p + k)).length = p + k := by rw [List.length_take]; (exact Nat.min_eq_left (by lia))
      rw [Option.toList_some, List.set_append_right _ _ (by exact Nat.le_of_eq this), this, Nat.sub_self]; rfl
    rw [h1, List.append_assoc, List.length_cons, show p + (k + 1) + cs.length = p + k + (cs.length + 1) by (clear h1; lia)]; rfl
end Fb
namespace Fb
open PySem.Builtin PySem.Builtin.Struct
noncomputable def packB (K : Frag) : Bool := [52, 53, 54, 55, 56, 57, 58, 59, 60].all fun a => match K.lookup a with
  | some (o : Obj) => o.cls == .type "_struct.Struct" && (match o.data with
    | Data.fields vs => (match vs[0]? with
      | some (Value.bytes b _) => b == fmtB a
      | _ => false)
    | _ => false)
  | none => false
theorem packAt {K : Frag} {f : Addr} {y : Nat × Option (Int × Int)} (h : packB K = true) (hf : fL f = some y) : ∃ o vs t, K.lookup f = some o /\ o.cls = .type "_struct.Struct" /\ o.data = .fields vs /\ vs[0]? = some (.bytes (fmtB f) t) := by
  have this := List.all_eq_true.mp h f (jI (P := fun x => x.1 ∈ [52, 53, 54, 55, 56, 57, 58, 59, 60]) hf (by decide) (by decide) (by decide) (by decide) (by decide) (by decide) (by decide) (by decide) (by decide))
  induction ho : K.lookup f using Option.casesOn with
  | none => rw [ho] at this; exact Bool.noConfusion this
  | some o =>
    rw [ho] at this
    obtain ⟨a, b⟩ := Bool.and_eq_true_iff.mp this
    induction hd : o.data using Data.casesOn with
    | fields vs =>
      rw [hd] at b
      induction hv : vs[0]? using Option.casesOn with
      | none => simp only [hv] at b; exact Bool.noConfusion b
      | some v =>
        simp only [hv] at b
        induction v using Value.casesOn with
        | bytes bb t => exact ⟨o, vs, t, rfl, eq_of_beq a, hd, by rw [hv, eq_of_beq b]⟩
        | _ => exact Bool.noConfusion b
    | _ => rw [hd] at b; exact Bool.noConfusion b
theorem parse_any {f : Addr} {y : Nat × Option (Int × Int)} (hf : fL f = some y) : parse (fmtB f) = pure (fmtF f) :=
  jI (P := fun x => parse (fmtB x.1) = pure (fmtF x.1)) hf parse_52 parse_53 parse_54 parse_55 parse_56 parse_57 parse_58 parse_59 parse_60
theorem fmt_size {f : Addr} {sz : Nat} {r : Option (Int × Int)} (hf : fL f = some (sz, r)) : (fmtF f).size = sz /\ (fmtF f).items = 1 /\ 0 < sz /\ sz <= 8 :=
  jI (P := fun x => (fmtF x.1).size = x.2.1 /\ (fmtF x.1).items = 1 /\ 0 < x.2.1 /\ x.2.1 <= 8) hf ⟨rfl, rfl, by decide, by decide⟩ ⟨rfl, rfl, by decide, by decide⟩ ⟨rfl, rfl, by decide, by decide⟩ ⟨rfl, rfl, by decide, by decide⟩ ⟨rfl, rfl, by decide, by decide⟩ ⟨rfl, rfl, by decide, by decide⟩ ⟨rfl, rfl, by decide, by decide⟩ ⟨rfl, rfl, by decide, by decide⟩ ⟨rfl, rfl, by decide, by decide⟩
theorem fmt_none {f : Addr} {sz : Nat} (hf : fL f = some (sz, none)) : f = 52 /\ sz = 1 := by
  have no : ∀ {p : Prop} {l : Int × Int}, some l = (none : Option (Int × Int)) -> p := fun e => nomatch e
  exact jI (P := fun x => x.2.2 = none -> x.1 = 52 /\ x.2.1 = 1) hf (fun _ => ⟨rfl, rfl⟩) no no no no no no no no rfl
theorem setRange_twice {l z raw : List UInt8} {q : Nat} (h : z.length = raw.length) (hq : q + raw.length <= l.length) : aN (aN l q z) q raw = aN l q raw := by
  unfold aN
  have h1 : (l.take q).length = q := by rw [List.length_take]; (exact Nat.min_eq_left (by lia))
  have h2 : List.take q (l.take q ++ (z ++ l.drop (q + z.length))) = l.take q := List.take_left' h1
  have h3 : List.drop (q + raw.length) (l.take q ++ (z ++ l.drop (q + z.length))) = l.drop (q + raw.length) := by
    rw [<- List.append_assoc, List.drop_left' (by rw [List.length_append, h1, h]), h]
  rw [h2, h3]
section
variable {prog : Program} {w : World} {A : Around} {E : Value -> Shared -> Prop} {s : Shared} {g : Heap} {K : Frag} {lev : Nat}
theorem held_body {id : String} {f : Addr} {sz : Nat} {r : Option (Int × Int)} {ba : Addr} {l raw : List UInt8} {p : Int} {t : Tok} {u : Value} {M : Model} {Q : Fin -> Shared -> Prop} (hf : fL f = some (sz, r)) (e : s.heap.get? ba = some (bob l)) (h0 : 0 <= p) (h1 : p + sz <= l.length) (h2 : l.length <= 1000000) (hraw : raw.length = sz)
    (hone : ∀ {s' : Shared} {put : Unit -> Nat -> Array UInt8 -> Sem Unit} {src : Value -> Nat -> Nat -> Sem Unit} {Q : Unit -> Shared -> Prop} {E : Value -> Shared -> Prop}, wpAny M A (put () 0 raw.toArray) (fun _ s'' => Q () s'') E s' -> wpAny M A (packEach id (fmtF f) [u] () put src) Q E s')
    (h : ∀ h', h'.get? ba = some (bob (aN l p.toNat raw)) -> (∀ b o, b ≠ ba -> s.heap.get? b = some o -> h'.get? b = some o) -> Q (.done (.ret .none)) { s with heap := h' }) :
    wpAny M A (packHeld id (fmtF f) (.ref ba) 0 l.length (.int p t) [u]) Q E s := by
  have zq0 := fmt_size hf; have g1 := zq0.1; have g2 := zq0.2.1; have g3 := zq0.2.2.1; have g4 := zq0.2.2.2; clear zq0
  unfold packHeld
  refine wpAny_bind (wpAny_of_eq (asIndex_int p t) ?_)
  rw [if_neg (by
    have a : decide (-(2 ^ 63 : Int) <= p) = true := decide_eq_true (by lia)
    have b : decide (p < (2 : Int) ^ 63) = true := decide_eq_true (by (clear g3; lia))
    have : PySem.Builtin.Bytes.fitsIndex p = true := by unfold PySem.Builtin.Bytes.fitsIndex; rw [a, b]; rfl
    first
    | (rw [this]; decide)
    | (show ¬ ((!(decide (-(2 ^ 63 : Int) <= p) && decide (p < 2 ^ 63))) = true); rw [a, b]; decide))]
  have hplace : placeIn "pack_into" "packing" "no space to pack" (fmtF f) l.length p = pure p.toNat := by
    unfold placeIn
    rw [if_neg (by lia)]
    simp only [if_neg (show ¬ p < 0 by lia)]
    rw [g1]
    rw [if_neg (by lia)]
  refine wpAny_bind (wpAny_of_eq hplace ?_)
  have step : ∀ (l' raw' : List UInt8) (q : Nat) (h' : Heap) (Q' : Unit -> Shared -> Prop) (s' : Shared), s'.heap.get? ba = some (bob l') -> q + raw'.length <= l'.length -> l'.length <= 1000000 -> (∀ h'', h''.get? ba = some (bob (aN l' q raw')) -> Heap.SameBut ba s'.heap h'' -> Q' () { s' with heap := h'' }) ->
      wpAny M A (Bytes.write (.ref ba) (fun out => raw'.toArray.toList.zipIdx.foldl (fun (out : Array UInt8) (x : UInt8 × Nat) => out.setIfInBounds (q + x.2) x.1) out)) Q' E s' := by
    intro l' raw' q h' Q' s' e' hq hl hQ
    refine N.writeBA e' (r := aN l' q raw') ?_ (by rw [sizeLine_eq, pK hq]; (exact Nat.le_trans (by assumption) (Nat.le_add_left _ _))) hQ
    rw [List.toList_toArray]
    have := place_list raw' l' q 0 (by assumption)
    apply Array.toList_inj.mp
    rw [List.toList_toArray]; exact this
  have hz : (List.replicate sz (0 : UInt8)).length = sz := List.length_replicate
  have z : 0 + p.toNat = p.toNat := by (exact Nat.add_comm _ _)
  refine wpAny_bind ?_
  have w1 := step l (List.replicate sz 0) (0 + p.toNat) s.heap (fun _ s' => wpAny M A (packEach id (fmtF f) [u] () (fun _ q raw => Bytes.write (.ref ba) (fun out => raw.toList.zipIdx.foldl (fun (out : Array UInt8) (x : UInt8 × Nat) => out.setIfInBounds (0 + p.toNat + q + x.2) x.1) out)) (fun x q n => if (Bytes.sameRef x (.ref ba) && 0 + p.toNat + q != 0 && decide (0 + p.toNat + q < n)) = true then unsupported s!"{id}:overlapping-copy" else pure ()) >>= fun _ => ret .none) Q E s') s e (by (rw [hz]; lia)) h2 ?_
  . rw [show (List.replicate sz (0 : UInt8)).toArray = Array.replicate (fmtF f).size 0 by rw [g1]; simp] at w1
    exact w1
  intro hG eH sbH
  refine wpAny_bind (hone ?_)
  have hlG : (aN l (0 + p.toNat) (List.replicate sz 0)).length = l.length := pK (by lia)
  refine step _ raw (0 + p.toNat + 0) s.heap _ _ eH (by lia) (by (generalize (aN l (0 + p.toNat) (List.replicate sz 0)).length = z0 at hlG ⊢; generalize l.length = z1 at h2 hlG; (rw [hlG]; lia))) ?_
  intro hH eG sbG
  refine wpAny_pure (h hH ?_ fun b o hb eo => (sbG.2 b hb).trans ((sbH.2 b hb).trans eo))
  rw [eG, Nat.add_zero, z, setRange_twice (by rw [hz, hraw]) (by lia)]
theorem pack_main (X : K.In g) (hK : packB K = true) {ρ : Ad} {σ : St} {f : Addr} {sz : Nat} {r : Option (Int × Int)} {p : Int} {t : Tok} {u : Value} {Kc : AV -> St -> Prop} {Q : Value -> Shared -> Prop} (st : g.StaysIn s.heap) (D : Dyn g ρ σ s.heap) (hf : fL f = some (sz, r))
    (q : 0 <= p /\ p + sz <= σ.bytes.length /\ σ.bytes.length <= 1000000) {raw : List UInt8} (hraw : raw.length = sz) (hk : Kc .none (σ.uBytes (aN σ.bytes p.toNat raw))) (hP : PostE g ρ σ s Kc Q)
    (hone : ∀ {A : Around} {s' : Shared} {put : Unit -> Nat -> Array UInt8 -> Sem Unit} {src : Value -> Nat -> Nat -> Sem Unit} {M : Model} {Q : Unit -> Shared -> Prop} {E : Value -> Shared -> Prop}, wpAny M A (put () 0 raw.toArray) (fun _ s'' => Q () s'') E s' -> wpAny M A (packEach "_struct.Struct.pack_into" (fmtF f) [u] () put src) Q E s') :
    wpAny (model prog w) A (call (.builtin "_struct.Struct.pack_into") [.ref f, .ref ρ.ba, .int p t, u]) Q E s := by
  have q2 := q.1; have q3 := q.2.1; have q4 := q.2.2; clear q
  refine bcn fun nG => ?_; obtain ⟨o, vs, tf, zq0⟩ := packAt hK hf; have ho := zq0.1; have hc := zq0.2.1; have hd := zq0.2.2.1; have hv := zq0.2.2.2
  have e := st _ _ (X _ _ ho)
  have hT : s.TypeIs (.ref f) "_struct.Struct" := ⟨o, e, hc⟩
  have hTb : s.TypeIs (.ref ρ.ba) "bytearray" := ⟨_, D.ba, rfl⟩
  have g2 := (fmt_size hf).2.1
  refine nG ?_; refine wpAny_call (codeAny_call_builtin slot_pack.plain entry_pack (slot_pack.check _ _ _ _ _ _ _ _ hT (args_pack _ _ _ _) ?_))
  unfold Builtin.«_struct.Struct.pack_into»
  refine wpAny_bind (wpAny_of_eq (a := ()) rfl ?_)
  refine wpAny_bind ?_
  unfold structFormat
  refine wpAny_bind (wpAny_field e hd hv ?_)
  refine Fb.cZ (show ¬ ((Value.bytes (fmtB f) tf == Value.none) = true) from Bool.false_ne_true) ?_
  refine wpAny_bind (wpAny_of_eq (a := fmtB f) rfl ?_)
  refine wpAny_bind (wpAny_of_eq (parse_any hf) (wpAny_pure ?_))
  refine wpAny_bind (wpAny_field e hd hv ?_)
  unfold packInto
  refine Fb.cZ (by rw [g2]; exact Bool.false_ne_true) ?_
  refine wpAny_bind (wpAny_specialOf hTb iF ?_)
  refine wpAny_bind (lT D.ba (wpAny_pure ?_))
  refine And.intro (Code.quiet_builtin _ (by decide +kernel)) (codeAny_builtin entry_held ?_)
  unfold Builtin.«_struct.pack_into.held»
  refine wpAny_bind (wpAny_of_eq (a := fmtB f) rfl ?_)
  refine wpAny_bind (wpAny_of_eq (parse_any hf) ?_)
  rw [if_neg (show ¬ ((Value.ref f == Value.none) = true) from Bool.false_ne_true)]
  refine held_body (l := σ.bytes) hf D.ba q2 q3 q4 hraw hone ?_
  intro h' e' keep
  have ap := D.apart
  refine bcn fun nG => ?_; obtain ⟨D', S'⟩ := lX (σ' := (σ.uBytes (aN σ.bytes p.toNat raw))) (h' := h') D M_ba ap.b.2.1.symm ap.dx.1.symm (fun x o ha e => keep x o ha e) ⟨rfl, rfl, rfl, rfl⟩ (fun k => by induction k using Sl.casesOn <;> rfl)
    (fun q => absurd rfl q) (fun _ => e') (fun _ => rfl) (fun q => absurd q ap.ba.1) (fun _ => rfl) (fun q => absurd rfl (ap.cv _ q).2.2.1) (fun _ => rfl) (fun q => absurd rfl (ap.tb _ q).2.2.1) (fun _ => rfl) (fun q => absurd rfl (ap.tl _ q).2.2.1)
    (fun _ => ⟨rfl, rfl⟩) (fun q => absurd q ap.ba.2.1) (fun _ => ⟨rfl, rfl⟩) (fun q => absurd q ap.ba.2.2)
  refine nG ?_; exact hP _ _ ρ _ h' s.toks hk D' S' .none
theorem pack_ok (X : K.In g) (hK : packB K = true) : PackOk prog w g lev := by
  intro A s ρ σ f b c d y z u Kc Q E hB st D rb rc rd hw hP
  obtain ⟨n, rfl, hw⟩ := aBb_inv hw
  obtain ⟨p, rfl, hw⟩ := gI hw
  obtain ⟨t, rfl⟩ := rc.int_inv
  have hw : packK f n p d σ Kc := hw
  unfold packK at hw
  induction hf : fL f using Option.casesOn with
  | none => rw [hf] at hw; exact hw.elim
  | some x =>
    rw [hf] at hw
    obtain ⟨sz, r⟩ := x
    obtain ⟨⟨q1, q⟩, hk⟩ := hw
    obtain rfl := rb.bb_inv q1
    induction r using Option.casesOn with
    | some lh =>
      obtain ⟨lo, hi⟩ := lh
      obtain ⟨i, rfl, ⟨r3, r4⟩, hk⟩ := gI hk
      obtain ⟨ti, rfl⟩ := rd.int_inv
      refine pack_main X hK st D hf q (aE _ _) hk hP ?_
      intro A s' put src M Q E hput
      refine each_any hf r3 r4 ?_
      rw [show intBytes false sz i = (aF sz i).toArray by apply Array.toList_inj.mp; rw [List.toList_toArray]; exact le_any _ i]
      exact hput
    | none =>
      obtain ⟨x, rfl, hk⟩ := nY hk
      obtain rfl := rd.bool_inv
      obtain ⟨rfl, rfl⟩ := fmt_none hf
      exact pack_main X hK st D hf q rfl hk hP fun hput => each_52 hput
end
end Fb
namespace Fb
theorem ba_no_bytes : typeLookup (.type "bytearray") "__bytes__" = pure none := by rw [typeLookup_type, builtinLookup_eq_fast]; kernel_rfl
theorem ba_no_index : typeLookup (.type "bytearray") "__index__" = pure none := by rw [typeLookup_type, builtinLookup_eq_fast]; kernel_rfl
section
variable {prog : Program} {w : World} {A : Around} {E : Value -> Shared -> Prop} {s : Shared} {g : Heap} {ρ : Ad} {σ : St} {lev : Nat} {Kc : AV -> St -> Prop} {Q : Value -> Shared -> Prop}
theorem asStr_ba {a : Addr} {l : List UInt8} {M : Model} {Q : Option Str -> Shared -> Prop} (e : s.heap.get? a = some (bob l)) (h : Q none s) : wpAny M A (asStr? (.ref a)) Q E s := by
  unfold asStr?
  exact wpAny_bind (wpAny_load e (wpAny_pure h))
theorem bufferBA {id : String} {full : Bool} {a : Addr} {l : List UInt8} {M : Model} {Q : Option (Array UInt8) -> Shared -> Prop} (e : s.heap.get? a = some (bob l)) (h : Q (some l.toArray) s) : wpAny M A (Builtin.Bytes.buffer? id (.ref a) full) Q E s := by
  have hT : s.TypeIs (.ref a) "bytearray" := ⟨_, e, rfl⟩
  unfold Builtin.Bytes.buffer?
  refine wpAny_bind (wpAny_specialOf hT iF ?_)
  dsimp only
  refine wpAny_bind ?_
  unfold Builtin.Bytes.slotIsOwn
  refine wpAny_bind (wpAny_specialOf hT iF ?_)
  dsimp only
  rw [show (!"bytearray.__buffer__".endsWith ("." ++ "__buffer__")) = false from by decide +kernel, if_neg Bool.false_ne_true]
  rw [show "bytearray.__buffer__".dropRight ("__buffer__".length + 1) = "bytearray" from by decide +kernel]
  refine wpAny_isInstance hT N.sub_ba ?_
  refine cZ (by decide) ?_
  refine wpAny_bind (wpAny_specialOf hT iF ?_)
  try dsimp only
  refine wpAny_bind (N.ownRel e rfl ?_)
  refine cZ Bool.false_ne_true ?_
  exact wpAny_bind (lT e (wpAny_pure h))
theorem bytes_ba_new {a : Addr} {l : List UInt8} {Q : Value -> Shared -> Prop} (e : s.heap.get? a = some (bob l)) (hl : l.length <= 1000000) (hQ : ∀ t k, Q (.bytes l.toArray t) { s with toks := k }) :
    codeAny (model prog w) A (.call (.builtin "bytes.__new__") ⟨[.type "bytes", .ref a], []⟩) (wants Q E) s := by
  have hT : s.TypeIs (.ref a) "bytearray" := ⟨_, e, rfl⟩
  refine codeAny_of_tree ?_
  show wpAny _ A.in1 (do checkBuiltinCall "bytes.__new__" ⟨[.type "bytes", .ref a], []⟩; again (.builtin "bytes.__new__" ⟨[.type "bytes", .ref a], []⟩)) _ _ s
  refine wpAny_bind (wpAny_of_eq (F.bm_newCall _) (wpAny_pure ⟨plainId_quiet F.bm_plain _, codeAny_builtin F.bm_entry ?_⟩))
  rw [Around.under_plainId F.bm_plain _]
  unfold Builtin.«bytes.__new__»
  refine wpAny_bind (wpAny_of_eq (a := true) rfl ?_)
  refine bm_if_false rfl ?_
  refine wpAny_bind (wpAny_of_eq F.bm_sub ?_)
  refine bm_if_false rfl ?_
  refine wpAny_bind (wpAny_of_eq (F.bm_bind _) ?_)
  refine wpAny_bind (wpAny_of_eq (a := ()) rfl ?_)
  refine wpAny_bind (wpAny_of_eq (a := ()) rfl ?_)
  refine bm_if_false rfl ?_
  refine wpAny_bind (wpAny_specialOf hT ba_no_bytes ?_)
  refine wpAny_bind (wpAny_bind (asStr_ba e (wpAny_pure ?_)))
  refine bm_if_false rfl ?_
  refine wpAny_bind (wpAny_specialOf hT ba_no_index ?_)
  refine bm_if_true rfl ?_
  refine wpAny_bind (bufferBA e ?_)
  refine wpAny_bind (wpAny_rule ?_)
  refine wpAny_bind (wpAny_mkBytes ?_ (by rw [sizeLine_eq]; simp; (exact Nat.le_trans (by assumption) (Nat.le_add_left _ _))))
  exact wpAny_pure (hQ _ _)
theorem bi_bytes_ba {a : Addr} {l : List UInt8} (D : Dyn g ρ σ s.heap) (e : s.heap.get? a = some (bob l)) (hl : l.length <= 1000000) (hk : Kc (.bytes l) σ) (hP : PostE g ρ σ s Kc Q) : wpAny (model prog w) A (call (.type "bytes") [.ref a]) Q E s := by
  refine callType_codes (Q₁ := fun obj sG => sG.TypeIs obj "bytes" /\ Q obj sG) F.bm_called (F.bm_typeCall _) F.entry_object_init
    (bytes_ba_new e hl fun t k => ⟨PySem.W.typeIs_bytes _ _ _, hP _ _ ρ σ s.heap k hk D (Stp.refl ..) (.bytes _ _)⟩) fun obj sG hG => ?_
  exact ⟨hG.1, F.args_object_init_2 obj _, object_init_meets F.bm_called.init.lookup F.bm_called.made (by decide) prog w A.in1 _ sG ⟨hG.1, rfl, hG.2⟩⟩
end
end Fb
namespace Fb
theorem sub_bytes_str : isSubtype (.type "bytes") (.type "str") = pure false := by rw [isSubtype_type]; kernel_rfl
theorem sub_bytes_bytes : isSubtype (.type "bytes") (.type "bytes") = pure true := by rw [isSubtype_type]; kernel_rfl
theorem answers_b {x : Array UInt8} {u : Tok} {T : String} (hne : (Value.type "bytes" == Value.type T) = false) (hty : typeOf (.type T) = pure (.type "type")) (hsub : isSubtype (.type "bytes") (.type T) = pure false) :
    Answers (fun s => s.TypeIs (.bytes x u) "bytes") (.bytes x u) (.type T) false :=
  fun _ _ _ _ _ _ s hs => by
    obtain ⟨h, g, d, t, os⟩ := s
    exact isinstance_nested_false_bytes hne hty hsub (hs.2 (t + 1))
section
variable {prog : Program} {w : World} {A : Around} {E : Value -> Shared -> Prop} {s : Shared} {g : Heap} {ρ : Ad} {σ : St} {lev : Nat} {Kc : AV -> St -> Prop} {Q : Value -> Shared -> Prop}
theorem bi_isi_50 {x : Array UInt8} {u : Tok} (D : Dyn g ρ σ s.heap) (ht : s.heap.get? 50 = some { cls := .type "tuple", data := .seq #[.type "str"] }) (hk : Kc (.bool false) σ) (hP : PostE g ρ σ s Kc Q) : wpAny (model prog w) A (call (.builtin "isinstance") [.bytes x u, .ref 50]) Q E s :=
  IsiPair.tupleOfB (Tx := "bytes") (cs := [.type "str"]) (.cons (answers_b (by decide +kernel) F.isi_meta_str sub_bytes_str) .nil) rfl ht rfl fun tk => hP _ _ ρ σ s.heap tk hk D (Stp.refl ..) (.bool _)
theorem bi_isi_51 {x : Array UInt8} {u : Tok} (D : Dyn g ρ σ s.heap) (ht : s.heap.get? 51 = some { cls := .type "tuple", data := .seq #[.type "bytes", .type "bytearray"] }) (hk : Kc (.bool true) σ) (hP : PostE g ρ σ s Kc Q) : wpAny (model prog w) A (call (.builtin "isinstance") [.bytes x u, .ref 51]) Q E s :=
  IsiPair.tupleOfB (Tx := "bytes") (cs := [.type "bytes", .type "bytearray"]) (.cons (Answers.of_true F.isi_meta_bytes sub_bytes_bytes) (.cons (answers_b (by decide +kernel) F.isi_meta_bytearray N.sub_bytes_ba) .nil)) rfl ht rfl fun tk => hP _ _ ρ σ s.heap tk hk D (Stp.refl ..) (.bool _)
end
end Fb
namespace Fb
open PySem.Builtin PySem.Builtin.Struct
theorem entry_unpack : entryFor table "_struct.unpack" = some Builtin.«_struct.unpack» := entryFor_of_tree (by kernel_rfl)
theorem plain_unpack : plainId "_struct.unpack" = true := by decide +kernel
theorem chk_unpack (a b : Value) : checkBuiltinCall "_struct.unpack" ⟨[a, b], []⟩ = pure () := by kernel_rfl
noncomputable def fmt4 : Format := ⟨true, false, [⟨'B', 1, 0, 1⟩, ⟨'B', 1, 1, 1⟩, ⟨'B', 1, 2, 1⟩, ⟨'B', 1, 3, 1⟩], 4, 4⟩
theorem mod_4 (t : Tok) : moduleFormat (.str (Str.ofString ">BBBB") t) = pure fmt4 := by kernel_rfl
theorem bytesLike_b {M : Model} {A : Around} {E : Value -> Shared -> Prop} {s : Shared} {id : String} {b : Array UInt8} {t : Tok} {Q : Array UInt8 -> Shared -> Prop} (h : Q b s) : wpAny M A (Bytes.bytesLike id (.bytes b t)) Q E s := by
  unfold Bytes.bytesLike
  exact wpAny_bind (N.bufferBytes (wpAny_pure h))
section
variable {prog : Program} {w : World} {A : Around} {E : Value -> Shared -> Prop} {s : Shared} {g : Heap} {ρ : Ad} {σ : St} {lev : Nat} {Kc : AV -> St -> Prop} {Q : Value -> Shared -> Prop}
theorem unpacked_4 {id : String} {a b c d : UInt8} {M : Model} {Q : Value -> Shared -> Prop} (h : ∀ tH tG tJ tW k, Q (.ref s.heap.objs.size) (Fb.sh s (s.heap.push (tob #[.int (a.toNat : Int) tH, .int (b.toNat : Int) tG, .int (c.toNat : Int) tJ, .int (d.toNat : Int) tW] 0)) k)) :
    wpAny M A (Struct.unpacked id fmt4 #[a, b, c, d] 0) Q E s := by
  unfold Struct.unpacked
  have step : ∀ (k : Nat) (x : UInt8) (out : Array Value) (s : Shared) (Q' : ForInStep (Array Value) -> Shared -> Prop), #[a, b, c, d].extract k (k + 1) = #[x] -> (∀ t, Q' (.yield (out.push (.int (x.toNat : Int) t))) { s with toks := s.toks + 1 }) ->
      wpAny M A (mkInt (if ('B'.isLower && decide (natOf true (#[a, b, c, d].extract k (k + 1)) >= 2 ^ (8 * 1 - 1))) = true then (natOf true (#[a, b, c, d].extract k (k + 1)) : Int) - 2 ^ (8 * 1) else (natOf true (#[a, b, c, d].extract k (k + 1)) : Int)) >>= fun v => pure (ForInStep.yield (out.push v))) Q' E s := by
    intro k x out s Q' hx hq
    rw [hx]
    refine wpAny_bind (wpAny_mkInt (wpAny_pure ?_))
    have : (if ('B'.isLower && decide (natOf true #[x] >= 2 ^ (8 * 1 - 1))) = true then (natOf true #[x] : Int) - 2 ^ (8 * 1) else (natOf true #[x] : Int)) = (x.toNat : Int) := by
      rw [if_neg (by rw [show 'B'.isLower = false from by decide]; exact Bool.false_ne_true)]
      show ((0 * 256 + x.toNat : Nat) : Int) = _
      simp
    rw [this]
    exact hq _
  refine wpAny_bind ?_
  simp only [fmt4]
  rw [List.forIn_cons]
  refine wpAny_bind ?_
  refine bm_if_false (c := Bytes.tooLong 1) rfl ?_
  rw [range1]
  refine wpAny_bind (wpAny_bind (step 0 a _ _ _ rfl ?_))
  intro t1
  refine wpAny_pure (wpAny_pure ?_)
  dsimp only
  rw [List.forIn_cons]
  refine wpAny_bind ?_
  refine bm_if_false (c := Bytes.tooLong 1) rfl ?_
  rw [range1]
  refine wpAny_bind (wpAny_bind (step 1 b _ _ _ rfl ?_))
  intro t2
  refine wpAny_pure (wpAny_pure ?_)
  dsimp only
  rw [List.forIn_cons]
  refine wpAny_bind ?_
  refine bm_if_false (c := Bytes.tooLong 1) rfl ?_
  rw [range1]
  refine wpAny_bind (wpAny_bind (step 2 c _ _ _ rfl ?_))
  intro t3
  refine wpAny_pure (wpAny_pure ?_)
  dsimp only
  rw [List.forIn_cons]
  refine wpAny_bind ?_
  refine bm_if_false (c := Bytes.tooLong 1) rfl ?_
  rw [range1]
  refine wpAny_bind (wpAny_bind (step 3 d _ _ _ rfl ?_))
  intro t4
  refine wpAny_pure (wpAny_pure ?_)
  dsimp only
  rw [List.forIn_nil]
  refine wpAny_pure ?_
  refine PySem.wpAny_newTuple ?_ (by rw [sizeLine_eq]; exact Nat.le_of_ble_eq_true rfl)
  exact h _ _ _ _ _
theorem bi_unpack {l : List UInt8} {t u : Tok} (D : Dyn g ρ σ s.heap) (hl : l.length = 4) (hk : Kc (.itup (l.map fun x => (x.toNat : Int))) σ) (hP : PostE g ρ σ s Kc Q) : wpAny (model prog w) A (call (.builtin "_struct.unpack") [.str (Str.ofString ">BBBB") t, .bytes l.toArray u]) Q E s := by
  obtain ⟨a, b, c, d, rfl⟩ : ∃ a b c d, l = [a, b, c, d] := by
    match l, hl with
    | [a, b, c, d], _ => exact ⟨a, b, c, d, rfl⟩
  refine wpAny_call (codeAny_call_builtin plain_unpack entry_unpack (wpAny_of_eq (chk_unpack _ _) ?_))
  unfold Builtin.«_struct.unpack»
  refine wpAny_bind (wpAny_of_eq (a := ()) rfl ?_)
  refine wpAny_bind (wpAny_of_eq (a := ()) rfl ?_)
  refine wpAny_bind (wpAny_of_eq (mod_4 t) ?_)
  unfold Struct.unpackExact
  refine wpAny_bind (bytesLike_b ?_)
  refine wpAny_bind (wpAny_of_eq (a := fmt4) rfl ?_)
  refine bm_if_false (c := #[a, b, c, d].size != fmt4.size) rfl ?_
  refine wpAny_bind (unpacked_4 fun tH tG tJ tW k => wpAny_pure ?_)
  have G := Grows.push s.heap (tob #[.int (a.toNat : Int) tH, .int (b.toNat : Int) tG, .int (c.toNat : Int) tJ, .int (d.toNat : Int) tW] 0)
  exact hP _ _ ρ σ _ k hk (D.grow G) G.stp (.itup (D.fresh (Nat.le_refl _)) (Heap.get?_push_size _ rfl) (.cons _ _ (.cons _ _ (.cons _ _ (.cons _ _ .nil)))))
end
end Fb
namespace Fb
theorem cY : Slot "bytearray_iterator" "__next__" "bytearray_iterator.__next__" :=
  .of (owner := "bytearray_iterator") (n := "__next__") (by rw [typeLookup_type, builtinLookup_eq_fast]; kernel_rfl) (by decide +kernel) (by decide +kernel) (by decide +kernel)
    (by first | exact .inl (by decide +kernel) | exact .inr (by decide +kernel)) (by rw [isSubtype_type]; kernel_rfl)
theorem oV : Slot "bytearray_iterator" "__iter__" "bytearray_iterator.__iter__" :=
  .of (owner := "bytearray_iterator") (n := "__iter__") (by rw [typeLookup_type, builtinLookup_eq_fast]; kernel_rfl) (by decide +kernel) (by decide +kernel) (by decide +kernel)
    (by first | exact .inl (by decide +kernel) | exact .inr (by decide +kernel)) (by rw [isSubtype_type]; kernel_rfl)
theorem slot_ba_iter : Slot "bytearray" "__iter__" "bytearray.__iter__" :=
  .of (owner := "bytearray") (n := "__iter__") (by rw [typeLookup_type, builtinLookup_eq_fast]; kernel_rfl) (by decide +kernel) (by decide +kernel) (by decide +kernel)
    (by first | exact .inl (by decide +kernel) | exact .inr (by decide +kernel)) (by rw [isSubtype_type]; kernel_rfl)
theorem nE : entryFor table "bytearray_iterator.__next__" = some Builtin.«bytearray_iterator.__next__» := entryFor_of_tree (by kernel_rfl)
theorem entry_bai_iter : entryFor table "bytearray_iterator.__iter__" = some Builtin.«dict_keyiterator.__iter__» := entryFor_alias (id' := "dict_keyiterator.__iter__") (by kernel_rfl) rfl (by decide +kernel) (by kernel_rfl)
theorem entry_ba_iter : entryFor table "bytearray.__iter__" = some Builtin.«bytearray.__iter__» := entryFor_of_tree (by kernel_rfl)
theorem oT (a : Value) : argsOk "bytearray_iterator.__next__" ⟨[a], []⟩ := by unfold argsOk; kernel_rfl
theorem args_bai_iter (a : Value) : argsOk "bytearray_iterator.__iter__" ⟨[a], []⟩ := by unfold argsOk; kernel_rfl
theorem args_ba_iter (a : Value) : argsOk "bytearray.__iter__" ⟨[a], []⟩ := by
  unfold argsOk; rw [signature?_of (id := "bytearray.__iter__") (n := "__reti__".toList) (o := "yarraetyb".toList) (by kernel_rfl) owner_ba]; kernel_rfl
noncomputable def IsBaI (h : Heap) (a ba : Addr) (i : Nat) : Prop := ∃ o, h.get? a = some o /\ o.cls = .type "bytearray_iterator" /\ o.data = .fields #[.ref ba, .int i 0]
theorem IsBaI.typeIs {s : Shared} {a ba : Addr} {i : Nat} (y : IsBaI s.heap a ba i) : s.TypeIs (.ref a) "bytearray_iterator" := let ⟨o, ho, hc, _⟩ := y; ⟨o, ho, hc⟩
section
variable {prog : Program} {w : World} {A : Around} {E : Value -> Shared -> Prop} {s : Shared} {l : List UInt8} {ba : Addr}
theorem pyIter_ba {Q : Value -> Shared -> Prop} (e : s.heap.get? ba = some (bob l)) (hQ : Q (.ref s.heap.objs.size) { s with heap := s.heap.push { cls := .type "bytearray_iterator", data := .fields #[.ref ba, .int 0 0] } }) : wpAny (model prog w) A (pyIter (.ref ba)) Q E s := by
  have hT : s.TypeIs (.ref ba) "bytearray" := ⟨_, e, rfl⟩
  refine wpAny_pyIter_slot hT slot_ba_iter (wpAny_call_entry slot_ba_iter hT entry_ba_iter ?_ (args_ba_iter _))
  show wpAny _ _ (do ret (<- newFields "bytearray_iterator" [.ref ba, rawInt 0])) _ _ s
  exact wpAny_bind (wpAny_newObj_type (wpAny_pure ⟨_, rfl, "bytearray_iterator", _, ⟨_, Heap.get?_push_size _ rfl, rfl⟩, cY.lookup, hQ⟩))
theorem pyIter_bai {it : Addr} {i : Nat} {Q : Value -> Shared -> Prop} (hit : IsBaI s.heap it ba i) (h : Q (.ref it) s) : wpAny (model prog w) A (pyIter (.ref it)) Q E s := by
  refine wpAny_pyIter_slot hit.typeIs oV (wpAny_call_entry oV hit.typeIs entry_bai_iter ?_ (args_bai_iter _))
  exact wpAny_pure ⟨_, rfl, "bytearray_iterator", _, hit.typeIs, cY.lookup, h⟩
theorem bai_item {it : Addr} {i : Nat} {c : UInt8} {Q : Option Value -> Shared -> Prop} (hit : IsBaI s.heap it ba i) (e : s.heap.get? ba = some (bob l)) (hx : l[i]? = some c)
    (hQ : ∀ h', IsBaI h' it ba (i + 1) -> Heap.SameBut it s.heap h' -> Q (some (.int (c.toNat : Int) s.toks)) (Fb.sh s h' (s.toks + 1))) : wpAny (model prog w) A (pyNext (.ref it)) Q E s := by
  obtain ⟨o, zq0⟩ := id hit; have ho := zq0.1; have hc := zq0.2.1; have hd := zq0.2.2
  unfold pyNext
  refine wpAny_bind (wpAny_attempt (wpAny_callSpecial?_slot (name := PySem.Str.ofString "__next__") hit.typeIs cY
    (wpAny_call_entry cY hit.typeIs nE ?_ (oT _))))
  show wpAny _ _ (field (.ref it) 0 >>= _) _ _ s
  refine wpAny_bind (wpAny_field ho hd (x := .ref ba) rfl ?_)
  refine wpAny_bind (wpAny_load e ?_)
  refine wpAny_bind (wpAny_field ho hd (x := .int i 0) rfl ?_)
  have hx' : l.toArray[(i : Int).toNat]? = some c := by simpa using hx
  simp only [hx']
  refine wpAny_bind (wpAny_setField ho hd (by simp) (wpAny_bind (wpAny_mkInt (wpAny_pure ⟨_, rfl, wpAny_pure (hQ _ ?_ (Heap.SameBut.update ..))⟩))))
  exact ⟨_, Heap.get?_update_self _ ho (Obj.isFreed_of_fields (Obj.data_mapFields hd _)), (Obj.cls_mapFields ..).trans hc, by
    rw [Obj.data_mapFields hd]; simp [rawInt]⟩
theorem bai_end {it : Addr} {i : Nat} {Q : Option Value -> Shared -> Prop} (hh : A.handled = none) (hit : IsBaI s.heap it ba i) (e : s.heap.get? ba = some (bob l)) (hx : l[i]? = none)
    (hQ : ∀ h', Heap.ExtBut it s.heap h' -> Q none { s with heap := h' }) : wpAny (model prog w) A (pyNext (.ref it)) Q E s := by
  refine bcn fun nG => ?_; obtain ⟨o, zq0⟩ := id hit; have ho := zq0.1; have hc := zq0.2.1; have hd := zq0.2.2
  refine nG ?_; unfold pyNext
  refine wpAny_bind (wpAny_attempt (wpAny_callSpecial?_slot (name := PySem.Str.ofString "__next__") hit.typeIs cY
    (wpAny_call_entry cY hit.typeIs nE ?_ (oT _))))
  show wpAny _ _ (field (.ref it) 0 >>= _) _ _ s
  refine wpAny_bind (wpAny_field ho hd (x := .ref ba) rfl ?_)
  refine wpAny_bind (wpAny_load e ?_)
  refine wpAny_bind (wpAny_field ho hd (x := .int i 0) rfl ?_)
  have hx' : l.toArray[(i : Int).toNat]? = none := by simpa using hx
  simp only [hx']
  refine wpAny_bind (wpAny_rule (wpAny_bind (wpAny_setField ho hd (by simp) (wpAny_bind (wpAny_letGo ?_)))))
  refine wpAny_bind ?_
  simp only [newExc, newTuple]
  refine wpAny_bind (wpAny_newObj_type ?_ (by size_fits))
  refine wpAny_bind (m := firstArgMember _ _) (wpAny_of_eq (a := Value.none) (by first | rfl | (simp only [firstArgMember]; rfl)) ?_)
  refine wpAny_newObj_type ?_ (by size_fits)
  simp only [raiseNew]
  refine wpAny_bind (wpAny_handled ?_)
  rw [show A.in1.handled = none from hh]
  refine wpAny_bind (wpAny_pure (wpAny_throw ?_))
  refine wpAny_bind (wpAny_isInstance (T := "StopIteration") (b := true) ⟨_, Heap.get?_push_size _ rfl, rfl⟩ isSubtype_stop ?_)
  exact wpAny_pure (hQ _ (((Heap.SameBut.update ..).extBut.push _).push _))
noncomputable def ByteAt (l : List UInt8) (i : Nat) (v : Value) : Prop := ∃ c u, l[i]? = some c /\ v = .int (c.toNat : Int) u
theorem walks_ba (hh : A.handled = none) (I : Addr) (hne : ba ≠ I) : Walks prog w A I [I, ba] [I] l.length (ByteAt l) (fun i h => IsBaI h I ba i /\ h.get? ba = some (bob l)) where
  sub := fun b hb => by simp at hb; simp [hb]
  frame := fun _ _ _ st hk => ⟨let ⟨o, ho, r⟩ := st.1; ⟨o, hk I (by simp) o ho, r⟩, hk ba (by simp) _ st.2⟩
  item := fun i s Q E hi st hQ => by
    refine bai_item st.1 st.2 (c := l[i]) (by simp [hi]) fun h' hit' hs' => ?_
    exact hQ _ h' (s.toks + 1) ⟨_, _, by simp [hi], rfl⟩ ⟨hit', hs'.extBut ba _ hne st.2⟩ fun b o hb e => hs'.extBut b o (fun h => hb (by simp [h])) e
  done := fun s Q E st hQ => bai_end hh st.1 st.2 (by simp) fun h' he' => hQ h' s.toks fun b o hb e => he' b o (fun h => hb (by simp [h])) e
  self := fun _ _ _ _ st hQ => pyIter_bai st.1 hQ
end
end Fb
namespace Fb
section
variable {prog : Program} {w : World} {A : Around} {E : Value -> Shared -> Prop} {s : Shared} {l : List UInt8} {ba : Addr}
theorem extend_ba {R : Result -> Shared -> Prop} (hh : A.handled = none) (S : Addr) (res : Value) (cD : Nat) (hS : s.heap.get? S = some { cls := .type "list", data := .seq #[] cD }) (e : s.heap.get? ba = some (bob l))
    (hR : ∀ h' tk acc' c', (∀ b o, b ≠ S -> s.heap.get? b = some o -> h'.get? b = some o) -> h'.get? S = some { cls := .type "list", dict := none, data := .seq acc' c', slots := #[] } ->
      ItemsOf (ByteAt l) acc' l.length -> R (.ok (.ret res)) (Fb.sh s h' tk)) (hn : l.length <= 1000000) :
    wpAny (model prog w) A.in1 (Builtin.List.listExtendWith (.ref S) (.ref ba) res)
      (fun fin s' => match fin with | .done f => R (.ok f) s' | .again c' => c'.quiet = true /\ codeAny (model prog w) A c' R s') (fun e s' => R (.error e) s') s := by
  have hT : s.TypeIs (.ref ba) "bytearray" := ⟨_, e, rfl⟩
  have hSb : S ≠ ba := by
    rintro rfl
    rw [hS] at e
    have := congrArg (fun o => o.map (·.cls)) e
    simp at this
  have hSI : S ≠ s.heap.objs.size := Nat.ne_of_lt (Heap.lt_size hS)
  have hbI : ba ≠ s.heap.objs.size := Nat.ne_of_lt (Heap.lt_size e)
  have hSf : S ∉ [s.heap.objs.size, ba] := by simp [hSI, hSb]
  unfold Builtin.List.listExtendWith
  refine wpAny_bind (wpAny_typeOf hT ?_)
  have h1 : Builtin.List.listSameRef (.ref S) (.ref ba) = false := by
    show (S == ba) = false
    exact beq_eq_false_iff_ne.mpr hSb
  have h2 : (Value.type "bytearray" == Value.type "list") = false := by decide
  have h3 : (Value.type "bytearray" == Value.type "tuple") = false := by decide
  simp only [h1, h2, h3, Bool.or_false, Bool.false_eq_true, if_false]
  refine wpAny_bind (pyIter_ba e ?_)
  have eH := Heap.get?_push_of_some { cls := Value.type "bytearray_iterator", data := Data.fields #[.ref ba, .int 0 0] } e
  have hTG : ({ s with heap := s.heap.push { cls := .type "bytearray_iterator", data := .fields #[.ref ba, .int 0 0] } } : Shared).TypeIs (.ref ba) "bytearray" := ⟨_, eH, rfl⟩
  refine wpAny_bind (wpAny_holding ?_)
  unfold Builtin.List.listLengthHint
  refine wpAny_bind (wpAny_specialOf hTG mV.lookup ?_)
  wp_delta
  refine wpAny_bind (wpAny_isInstance hTG N.sub_ba ?_)
  show wpAny _ _ (typeOf (Value.ref ba) >>= _) _ _ _
  refine wpAny_bind (wpAny_typeOf hTG ?_)
  refine wpAny_pure ?_
  refine cZ (by decide) ?_
  have W := (walks_ba (prog := prog) (w := w) (A := A.in1) (l := l) (ba := ba) hh s.heap.objs.size hbI).toS
  refine wpAny_pure ⟨plainId_quiet F.plain_extend_loop _, codeAny_extend_loopS W (by rw [sizeLine_eq]; (exact Nat.le_trans (by assumption) (Nat.le_add_left _ _))) _ hSf _ l.length 0 _ _ _ rfl (Nat.zero_le _) ⟨⟨_, Heap.get?_push_size _ rfl, rfl, rfl⟩, eH⟩ (Heap.get?_push_of_some _ hS) (ItemsOf.nil _) fun s' acc' c' hm hS' hacc => ?_⟩
  rw [Moved.eq_with hm]
  refine hR s'.heap s'.toks acc' c' (fun b ob hb e => hm.heap b ob (fun hmem => ?_) (Heap.get?_push_of_some _ e)) hS' hacc
  rcases List.mem_cons.mp hmem with e' | hmem
  . exact hb e'
  . exact absurd (Heap.lt_size e) (by rw [List.mem_singleton.mp hmem]; exact Nat.lt_irrefl _)
theorem init_ba {R : Result -> Shared -> Prop} (hh : A.handled = none) (S : Addr) (hS : s.heap.get? S = some { cls := .type "list", data := .seq #[] }) (e : s.heap.get? ba = some (bob l))
    (hR : ∀ h' tk acc' c', (∀ b o, b ≠ S -> s.heap.get? b = some o -> h'.get? b = some o) -> h'.get? S = some { cls := .type "list", dict := none, data := .seq acc' c', slots := #[] } ->
      ItemsOf (ByteAt l) acc' l.length -> R (.ok (.ret .none)) (Fb.sh s h' tk)) (hn : l.length <= 1000000) :
    wpAny (model prog w) A.in1 (Builtin.«list.__init__» ⟨[.ref S, .ref ba], []⟩)
      (fun fin s' => match fin with | .done f => R (.ok f) s' | .again c' => c'.quiet = true /\ codeAny (model prog w) A c' R s') (fun e s' => R (.error e) s') s := by
  have hSb : ba ≠ S := by
    rintro rfl
    rw [hS] at e
    have := congrArg (fun o => o.map (·.cls)) e
    simp at this
  show wpAny _ _ (do let old <- Builtin.List.listItems (.ref S); Builtin.List.listUpdate (.ref S) (fun _ => #[]); letGo old.toList.reverse; Builtin.List.listExtendWith (.ref S) (.ref ba) .none) _ _ s
  refine wpAny_bind ?_
  unfold Builtin.List.listItems
  refine wpAny_bind (wpAny_seqItems hS rfl (wpAny_pure ?_))
  show wpAny _ _ (updateSeq S (fun _ => #[]) >>= fun _ => letGo (#[] : Array Value).toList.reverse >>= fun _ => Builtin.List.listExtendWith (.ref S) (.ref ba) .none) _ _ s
  refine wpAny_bind (wpAny_updateSeq hS rfl ?_)
  have hSG := Heap.get?_update_self (Obj.mapSeq (fun _ => (#[] : Array Value))) hS rfl
  have oth : ∀ b o, b ≠ S -> s.heap.get? b = some o -> (s.heap.update S (Obj.mapSeq (fun _ => (#[] : Array Value)))).get? b = some o :=
    fun b o hb e => (Heap.get?_update_other _ _ (Ne.symm hb)).trans e
  refine wpAny_bind (wpAny_letGo ?_)
  refine extend_ba hh S .none _ hSG (oth ba _ hSb e) (fun h' tk acc' c' hk hS' hacc => ?_) hn
  exact hR h' tk acc' c' (fun b o hb e => hk b o hb (oth b o hb e)) hS' hacc
theorem call_list_ba {Q : Value -> Shared -> Prop} (hh : A.handled = none) (e : s.heap.get? ba = some (bob l)) (hn : l.length <= 1000000)
    (hQ : ∀ h' tk acc' c', (∀ b o, s.heap.get? b = some o -> h'.get? b = some o) ->
      h'.get? s.heap.objs.size = some { cls := .type "list", dict := none, data := .seq acc' c', slots := #[] } -> ItemsOf (ByteAt l) acc' l.length -> Q (.ref s.heap.objs.size) (Fb.sh s h' tk)) :
    wpAny (model prog w) A (call (.type "list") [.ref ba]) Q E s := by
  refine callType_codes (Q₁ := fun obj sG => obj = .ref s.heap.objs.size /\ sG = { s with heap := s.heap.push { cls := .type "list", data := .seq #[] } }) F.called_list (F.typeCall_list_1 _) F.entry_list_init
    (code_list_new _ ⟨rfl, rfl⟩) fun obj sG hG => ?_
  obtain rfl := hG.1; obtain rfl := hG.2; clear hG
  have hS : (s.heap.push { cls := .type "list", data := .seq #[] }).get? s.heap.objs.size = some { cls := .type "list", data := .seq #[] } := Heap.get?_push_size _ rfl
  refine ⟨⟨_, hS, rfl⟩, F.args_list_init_2 _ _, init_ba (A := A.in1) hh _ hS (Heap.get?_push_of_some _ e) (fun h' tk acc' c' hk hS' hacc => ?_) hn⟩
  exact ⟨rfl, hQ h' tk acc' c' (fun b o e => hk b o (Nat.ne_of_lt (Heap.lt_size e)) (Heap.get?_push_of_some _ e)) hS' hacc⟩
end
theorem ints_of_at : ∀ (l : List UInt8) (vs : List Value), vs.length = l.length -> (∀ j v, vs[j]? = some v -> ByteAt l j v) -> IntsAre vs (l.map fun x => (x.toNat : Int))
  | [], [], _, _ => .nil
  | [], _ :: _, h, _ => by simp at h
  | _ :: _, [], h, _ => by simp at h
  | c :: l, v :: vs, h, hP => by
    obtain ⟨c', u, h1, h2⟩ := hP 0 v rfl
    cases h1
    subst h2
    refine .cons _ _ (ints_of_at l vs (by simpa using h) fun j v hj => ?_)
    obtain ⟨c', u, h1, h2⟩ := hP (j + 1) v (by simpa using hj)
    exact ⟨c', u, by simpa using h1, h2⟩
theorem ints_of_items {l : List UInt8} {acc : Array Value} (h : ItemsOf (ByteAt l) acc l.length) : IntsAre acc.toList (l.map fun x => (x.toNat : Int)) :=
  ints_of_at l acc.toList (by rw [Array.length_toList]; exact h.1) fun j v hj => h.2 j v (by rw [<- Array.getElem?_toList]; exact hj)
section
variable {prog : Program} {w : World} {A : Around} {E : Value -> Shared -> Prop} {s : Shared} {g : Heap} {ρ : Ad} {σ : St} {lev : Nat} {Kc : AV -> St -> Prop} {Q : Value -> Shared -> Prop}
theorem bi_list_ba {a : Addr} {l : List UInt8} (hB : Bud lev A) (D : Dyn g ρ σ s.heap) (e : s.heap.get? a = some (bob l)) (hl : l.length <= 1000000) (hk : Kc (.ints (l.map fun x => (x.toNat : Int))) σ) (hP : PostE g ρ σ s Kc Q) : wpAny (model prog w) A (call (.type "list") [.ref a]) Q E s := by
  refine call_list_ba hB.hd e hl fun h' tk acc' c' hk' hS' hacc => ?_
  have G : Grows s.heap h' := hk'
  exact hP _ _ ρ σ h' tk hk (D.grow G) G.stp (.ints (D.fresh (Nat.le_refl _)) hS' (ints_of_items hacc))
end
end Fb
set_option genInjectivity false
set_option genCtorIdx false
set_option genSizeOf false
namespace Fb
structure Tups (K : Frag) : Prop where
  t50 : K.lookup 50 = some { cls := .type "tuple", data := .seq #[.type "str"] }
  t51 : K.lookup 51 = some { cls := .type "tuple", data := .seq #[.type "bytes", .type "bytearray"] }
theorem rvs1 {ρ : Ad} {σ : St} {h : Heap} {x : AV} {vs : List Value} (r : RVs ρ σ h [x] vs) : ∃ v, vs = [v] /\ RV ρ σ h x v := by
  cases r with
  | cons a b => cases b; exact ⟨_, rfl, a⟩
theorem rvs2 {ρ : Ad} {σ : St} {h : Heap} {x y : AV} {vs : List Value} (r : RVs ρ σ h [x, y] vs) : ∃ v u, vs = [v, u] /\ RV ρ σ h x v /\ RV ρ σ h y u := by
  cases r with
  | cons a b => obtain ⟨u, zq0⟩ := rvs1 b; obtain rfl := zq0.1; have c := zq0.2; exact ⟨_, _, rfl, a, c⟩
section
variable {prog : Program} {w : World} {g : Heap} {K : Frag} {lev : Nat} {A : Around} {E : Value -> Shared -> Prop} {s : Shared} {ρ : Ad} {σ : St}
theorem len_ok (D : Dyn g ρ σ s.heap) {a : AV} {v : Value} {Kc : AV -> St -> Prop} {Q : Value -> Shared -> Prop} (r1 : RV ρ σ s.heap a v) (hw : wpLen a σ Kc) (hP : PostE g ρ σ s Kc Q) : wpAny (model prog w) A (call (.builtin "len") [v]) Q E s := by
  induction a using AV.casesOn with
  | «ints» l =>
    obtain ⟨a, vs, n, rfl, f, e, hi⟩ := r1.ints_inv
    exact nN D ⟨_, e, rfl, _, rfl⟩ (bI hi) hw.1 hw.2 hP
  | lst l =>
    obtain ⟨a, vs, n, rfl, f, e, hi⟩ := r1.lst_inv
    exact nN D ⟨_, e, rfl, _, rfl⟩ (dB hi) hw.1 hw.2 hP
  | bytes l => obtain ⟨t, rfl⟩ := r1.bytes_inv; exact bi_len_bytes D hw.1 hw.2 hP
  | bb n =>
    obtain ⟨⟨h1, h2⟩, hk⟩ := hw
    obtain rfl := r1.bb_inv h1
    exact bi_len_ba D.ba D h2 hk hP
  | cv n =>
    have hw : (match σ.cv with | some l => (n = σ.cvv /\ l.length <= 1000000) /\ Kc (.int l.length) σ | none => False) := hw
    have hc := D.cv
    induction hl : σ.cv using Option.casesOn with
    | none => rw [hl] at hw; exact hw.elim
    | some l =>
      rw [hl] at hw hc
      induction hcv : ρ.cv using Option.casesOn with
      | none => rw [hcv] at hc; exact hc.elim
      | some c =>
        rw [hcv] at hc
        obtain rfl := r1.cv_inv hw.1.1 c hcv
        obtain ⟨vs, hL, hi⟩ := hc
        exact nN D hL (bI hi) hw.1.2 hw.2 hP
  | _ => exact False.elim hw
theorem isinst_of {v : Value} {f : Bool -> Prop} (h : (match isinstOf v with | some c => f c | none => False)) : (v = .ref 50 /\ f false) \/ (v = .ref 51 /\ f true) := by
  induction v using Value.casesOn with
  | ref a =>
    have h : (match (match Nat.beq a 50 with | true => some false | false => (match Nat.beq a 51 with | true => some true | false => none)) with | some c => f c | none => False) := h
    induction h1 : Nat.beq a 50 using Bool.casesOn with
    | true => rw [h1] at h; exact .inl ⟨by rw [Nat.eq_of_beq_eq_true h1], h⟩
    | false =>
      rw [h1] at h
      induction h2 : Nat.beq a 51 using Bool.casesOn with
      | true => rw [h2] at h; exact .inr ⟨by rw [Nat.eq_of_beq_eq_true h2], h⟩
      | false => rw [h2] at h; exact False.elim h
  | _ => exact False.elim h
theorem bif_ok (X : K.In g) (T : Tups K) : BifOk prog w g lev := by
  intro b A s ρ σ avs vs Kc Q E hB st D R hw hP
  cases b with
  | len =>
    obtain ⟨a, rfl, hw⟩ := l1_inv hw
    obtain ⟨_, rfl, r1⟩ := rvs1 R
    exact len_ok D r1 hw hP
  | max =>
    obtain ⟨a, b, rfl, hw⟩ := l2_inv hw
    obtain ⟨_, _, rfl, r1, r2⟩ := rvs2 R
    exact jC hw r1 r2 fun x y t t' hk => bi_max hB D hk hP
  | min =>
    obtain ⟨a, b, rfl, hw⟩ := l2_inv hw
    obtain ⟨_, _, rfl, r1, r2⟩ := rvs2 R
    exact jC hw r1 r2 fun x y t t' hk => bi_min hB D hk hP
  | int =>
    obtain ⟨a, rfl, hw⟩ := l1_inv hw
    obtain ⟨_, rfl, r1⟩ := rvs1 R
    rcases aIB_inv hw with ⟨x, rfl, hk⟩ | ⟨x, rfl, hk⟩
    . obtain ⟨t, rfl⟩ := r1.int_inv; exact bi_int D hk hP
    . obtain rfl := r1.bool_inv; exact bi_int_bool D hk hP
  | list =>
    obtain ⟨a, rfl, hw⟩ := l1_inv hw
    obtain ⟨_, rfl, r1⟩ := rvs1 R
    obtain ⟨l, rfl, hw⟩ := aBarr_inv hw
    obtain ⟨a, rfl, f, e⟩ := r1.barr_inv
    exact bi_list_ba hB D e hw.1 hw.2 hP
  | bytes =>
    obtain ⟨a, rfl, hw⟩ := l1_inv hw
    obtain ⟨_, rfl, r1⟩ := rvs1 R
    induction a using AV.casesOn with
    | «ints» l =>
      obtain ⟨a, vs, n, rfl, f, e, hi⟩ := r1.ints_inv
      exact bi_bytes hB D ⟨_, e, rfl, _, rfl⟩ hi hw.1.1 hw.1.2 hw.2 hP
    | barr l =>
      obtain ⟨a, rfl, f, e⟩ := r1.barr_inv
      exact bi_bytes_ba D e hw.1 hw.2 hP
    | _ => exact False.elim hw
  | tuple =>
    obtain ⟨a, rfl, hw⟩ := l1_inv hw
    obtain ⟨_, rfl, r1⟩ := rvs1 R
    obtain ⟨n, rfl, hw⟩ := aTl_inv hw
    have hw : (match σ.tl with | some l => (n = σ.tlv /\ l.length <= 1000000) /\ Kc (.itup l) σ | none => False) := hw
    have hc := D.tl
    induction hl : σ.tl using Option.casesOn with
    | none => rw [hl] at hw; exact hw.elim
    | some l =>
      rw [hl] at hc hw
      induction hcv : ρ.tl using Option.casesOn with
      | none => rw [hcv] at hc; exact hc.elim
      | some c =>
        rw [hcv] at hc
        obtain rfl := r1.tl_inv hw.1.1 c hcv
        refine bcn fun nG => ?_; obtain ⟨vs, n, e, hi⟩ := hc
        refine nG ?_; exact bi_tuple D ⟨_, e, rfl, _, rfl⟩ hi hw.1.2 hw.2 hP
  | isinst =>
    obtain ⟨a, b, rfl, hw⟩ := l2_inv hw
    obtain ⟨_, _, rfl, r1, r2⟩ := rvs2 R
    obtain ⟨l, rfl, hw⟩ := lV hw
    obtain ⟨v, rfl, hw⟩ := aCst_inv hw
    obtain ⟨t, rfl⟩ := r1.bytes_inv
    obtain rfl := r2.cst_inv
    rcases isinst_of hw with ⟨rfl, hk⟩ | ⟨rfl, hk⟩
    . exact bi_isi_50 D (st _ _ (X _ _ T.t50)) hk hP
    . exact bi_isi_51 D (st _ _ (X _ _ T.t51)) hk hP
  | unpack =>
    obtain ⟨a, b, rfl, hw⟩ := l2_inv hw
    obtain ⟨_, _, rfl, r1, r2⟩ := rvs2 R
    obtain ⟨x, rfl, hw⟩ := aStr_inv hw
    obtain ⟨l, rfl, ⟨rfl, h4⟩, hk⟩ := lV hw
    obtain ⟨t, rfl⟩ := r1.str_inv
    obtain ⟨t', rfl⟩ := r2.bytes_inv
    exact bi_unpack D h4 hk hP
end
end Fb
set_option genInjectivity false
set_option genCtorIdx false
set_option genSizeOf false
namespace Fb
structure FnB (K : Frag) (f : Addr) (fd : FuncData) (body : List Stmt) (names : List Str) : Prop where
  at_ : fnOf K f = some fd
  body : fd.body = .stmts body
  gl : fd.globals = mainGlobals
  bi : fd.builtins = builtinsNs
  clo : fd.closure = []
  code : codeOk K fd.code fd.qualname = true
  co : fd.scope.isCoroutine = false
  gen : fd.scope.isGenerator = false
  fn : fd.scope.kind = .function
  kinds : ∀ x ∈ names, KindOk fd.scope x
noncomputable def SndB (prog : Program) (w : World) (g : Heap) (lev : Nat) (vars : List Str) (scope : Scope) (body : List Stmt) (ws : List AV -> St -> (Fl -> List AV -> St -> Prop) -> Prop) : Prop :=
  ∀ (env : Env), env.scope = scope -> ∀ (A : Around) (s : Shared) (ρ : Ad) (σ : St) (fr : List AV) (Kc : Fl -> List AV -> St -> Prop) (Q : Flow -> Shared -> Prop) (E : Value -> Shared -> Prop), Bud lev A -> Act g ρ σ env vars fr s.heap -> ws fr σ Kc -> PostS g env vars ρ σ s Kc Q ->
    wpN (model prog w) A (execs body env) Q E s
section
variable {prog : Program} {w : World} {g : Heap} {lev : Nat} {K : Frag}
set_option tactic.hygienic true in
theorem FnB.obj {f : Addr} {fd : FuncData} {body : List Stmt} {names : List Str} (F : FnB K f fd body names) : ∃ o, K.lookup f = some o /\ o.data = .func fd := by
  have h := F.at_
  unfold fnOf at h
  split at h
  . rename_i o ho
    split at h
    . rename_i fd' hd; (have e9 := Option.some.inj h; clear h; subst e9); exact ⟨o, ho, hd⟩
    . exact nn h
  . exact nn h
theorem fn_after (T : Stat K g) {f : Addr} {fd : FuncData} {body : List Stmt} {names rest : List Str} {ws : List AV -> St -> (Fl -> List AV -> St -> Prop) -> Prop} (F : FnB K f fd body names) (nd : (names ++ rest).Nodup) (hS : SndB prog w g lev (names ++ rest) fd.scope body ws)
    {A : Around} {s : Shared} {ρ : Ad} {σ : St} {avs : List AV} {vs : List Value} {Kc : AV -> St -> Prop} {Q E : Value -> Shared -> Prop} (hB : Bud (lev + 1) A) (st : g.StaysIn s.heap) (D : Dyn g ρ σ s.heap) (R : RVs ρ σ s.heap avs vs) (hnl : names.length = avs.length)
    (hw : ws (avs ++ List.replicate rest.length .unb) σ (fun fl _ σ' => match fl with | .ret v => Kc v σ' | .next => Kc .none σ' | .cont => False)) (hP : PostE g ρ σ s Kc Q) :
    wpN (model prog w) A.in1 (newFunctionEnv fd.scope fd.globals fd.closure (names.zip vs) (fd.qualname ++ ".<locals>.") (some f) fd.code none fd.builtins)
      (fun env sH => sH.heap.NoLimit /\ bQ (model prog w) A (.func body env) (fun r s' => match r with | .ok (.ret v) => Q v s' | .ok _ => False | .error e => E e s') sH) (fun _ _ => False) s := by
  have X : K.In s.heap := T.X.keeps st
  obtain ⟨scope, hsc⟩ : ∃ sc, fd.scope = sc := ⟨_, rfl⟩
  have hgl := F.gl
  have hbi := F.bi
  have hkind : ∀ x ∈ names.zip vs, fd.scope.names.lookup x.1 = some .local \/ (fd.scope.names.lookup x.1 = some .cell /\ ((cellsFrom (s.heap.objs.size + 1) fd.scope.names []).lookup x.1).isSome = true) := by
    intro x hx
    rcases F.kinds x.1 (List.of_mem_zip hx).1 with q | q
    . exact .inl q
    . exact .inr ⟨q, bX _ _ _ _ q⟩
  rw [F.clo]
  refine aB (wpAny_newFunctionEnv_cells F.fn hkind fun env he sG x => ?_)
  refine ⟨(T.lim.keeps st).keeps x.toInCall.keep, N.funcN ?_⟩
  obtain ⟨hG, tkG, rfl⟩ := x.toInCall.same
  have G : Grows s.heap hG := x.toInCall.keep
  have hsize : s.heap.objs.size <= env.locals := x.toInCall.fresh
  have hnone : ∀ a, s.heap.objs.size <= a -> s.heap.get? a = none := fun a ha => by
    induction e : s.heap.get? a using Option.casesOn with
    | none => rfl
    | some o' => exact absurd (Heap.lt_size e) (Nat.not_lt.mpr ha)
  have gn : ∀ a, s.heap.get? a = none -> g.get? a = none := fun a ha => by
    induction e : g.get? a using Option.casesOn with
    | none => rfl
    | some o => have := st _ _ e; rw [ha] at this; exact nn this
  have henv : env.scope = scope /\ env.globals = mainGlobals /\ env.builtins = builtinsNs /\ env.cells = cellsFrom (s.heap.objs.size + 1) fd.scope.names [] := by
    subst he; exact ⟨hsc, hgl, hbi, rfl⟩
  have e1 := henv.1; have e2 := henv.2.1; have e3 := henv.2.2.1; have e4 := henv.2.2.2; clear henv
  have kof : ∀ y, env.kindOf y = scope.names.lookup y := by intro y; rw [<- e1]; rfl
  have cellin : ∀ y c, env.cells.lookup y = some c -> (y, c) ∈ env.cells := by
    intro y c hy
    obtain ⟨z, zq0⟩ := iN hy; have hz := zq0.1; have hm := zq0.2
    rw [eq_of_beq hz] at hm; exact hm
  have hact : Act g ρ σ env (names ++ rest) (avs ++ List.replicate rest.length .unb) hG := by
    refine ⟨D.grow G, fun a o q => G a o (st a o q), ⟨by rw [e1, <- hsc]; exact F.fn, e2, e3⟩, ⟨_, x.toInCall.ns⟩, fun i y av hi hvis hf hu => ?_, ⟨(D.notIn (hnone _ hsize)).1, gn _ (hnone _ hsize)⟩, fun y c hy => ?_, fun y z c hy hz => ?_, fun y hy => ?_⟩
    . have hlt : i < avs.length := by
        rcases Nat.lt_or_ge i avs.length with q | q
        . exact q
        . exfalso
          rw [List.getElem?_append_right q] at hf
          have := List.mem_of_getElem? hf
          exact hu (List.eq_of_mem_replicate this)
      rw [List.getElem?_append_left hlt] at hf
      have hin : i < names.length := by rw [hnl, <- dB R]; rw [dB R]; exact hlt
      rw [List.getElem?_append_left hin] at hi
      obtain ⟨v, zq0⟩ := rvs_get R i hlt; have hv := zq0.1; have rv := zq0.2
      have hav : avs.getD i .unb = av := by rw [List.getD_eq_getElem?_getD, hf]; rfl
      rw [hav] at rv
      refine ⟨v, ?_, rv.step G.stp⟩
      have ndn : names.Nodup := (List.nodup_append.mp nd).1
      have zq0 := bind_at (k := env.kindOf) (m := fun _ => none) (cm := fun _ => none) ndn hi hv; have bl := zq0.1; have bc := zq0.2; clear zq0
      rcases (hsc ▸ F.kinds y (List.mem_of_getElem? hi) : KindOk scope y) with q | q
      . have q' : env.kindOf y = some .local := (kof y).trans q
        exact .inl ⟨q', _, x.toInCall.ns, bl q'⟩
      . have q' : env.kindOf y = some .cell := (kof y).trans q
        have hs := bX scope.names (s.heap.objs.size + 1) [] y q
        obtain ⟨c, hc⟩ := Option.isSome_iff_exists.mp hs
        have hc' : env.cells.lookup y = some c := by rw [e4, hsc]; exact hc
        refine .inr ⟨.inl q', c, hc', ?_⟩
        have := x.cell y c hc'
        rw [bc (by rw [q']; simp)] at this
        exact this
    . have hab := x.above y c (cellin y c hy)
      have hcn := hnone c (Nat.le_of_lt (Nat.lt_of_le_of_lt hsize hab))
      exact ⟨⟨_, x.cell y c hy⟩, (D.notIn hcn).1, gn _ hcn⟩
    . have p := x.apart
      have m1 := cellin y c hy
      have m2 := cellin z c hz
      exact congrArg Prod.fst (pw_inj p m1 m2 rfl)
    . rw [kof] at hy
      have hs := bX scope.names (s.heap.objs.size + 1) [] y hy
      obtain ⟨c, hc⟩ := Option.isSome_iff_exists.mp hs
      exact ⟨c, by rw [e4, hsc]; exact hc⟩
  refine hS env (by rw [e1, hsc]) (A.deeper env) (Fb.sh s hG tkG) ρ σ _ _ _ _ hB.deeper hact hw ?_
  intro fl f' fr' ρ' σ' h' tk hk H' S' F'
  have SH : Stp NoP ρ σ s.heap ρ' σ' h' := by
    have S0 : Stp (Own env) ρ σ s.heap ρ' σ' h' := (G.stp (P := Own env)).trans S'
    exact { S0 with keep := fun a o ha _ e => S0.keep a o ha (fun q => by
      rcases q with rfl | ⟨y, hy⟩
      . rw [hnone _ hsize] at e; exact nn e
      . have hab := x.above y a (cellin y a hy)
        rw [hnone a (Nat.le_of_lt (Nat.lt_of_le_of_lt hsize hab))] at e; exact nn e) e }
  revert hk
  exact F'.el (fun hk => hP _ _ ρ' σ' h' tk hk H'.dyn SH .none) (fun hk => hk.elim) fun av v r hk => hP _ _ ρ' σ' h' tk hk H'.dyn SH r
noncomputable def CodeOk (prog : Program) (w : World) (g : Heap) (lev : Nat) (f : Addr) (args : List Value -> Args) (S : Fn) : Prop :=
  ∀ (A : Around) (s : Shared) (ρ : Ad) (σ : St) (avs : List AV) (vs : List Value) (Kc : AV -> St -> Prop) (Q E : Value -> Shared -> Prop), Bud lev A -> g.StaysIn s.heap -> Dyn g ρ σ s.heap -> RVs ρ σ s.heap avs vs -> S avs σ Kc -> PostE g ρ σ s Kc Q ->
    bQ (model prog w) A (.call (.ref f) (args vs)) (fun r s' => match r with | .ok (.ret v) => Q v s' | .ok _ => False | .error e => E e s') s
theorem CodeOk.fun {f : Addr} {S : Fn} (h : CodeOk prog w g lev f (fun vs => ⟨vs, []⟩) S) : FunOk prog w g lev f S :=
  fun A s ρ σ avs vs Kc Q E hB st D R hw hP => cX (h A s ρ σ avs vs Kc Q E hB st D R hw hP)
theorem code_after (T : Stat K g) {f : Addr} {fd : FuncData} {body : List Stmt} {names rest : List Str} {ws : List AV -> St -> (Fl -> List AV -> St -> Prop) -> Prop} (F : FnB K f fd body names) (nd : (names ++ rest).Nodup) (hS : SndB prog w g lev (names ++ rest) fd.scope body ws)
    {args : List Value -> Args} (hb : ∀ (s : Shared) (vals : List Value), K.In s.heap -> vals.length = names.length -> BindsTo s fd (args vals) (names.zip vals)) :
    CodeOk prog w g (lev + 1) f args (fun avs σ Kc => avs.length = names.length /\ ws (avs ++ List.replicate rest.length .unb) σ (fun fl _ σ' => match fl with | .ret v => Kc v σ' | .next => Kc .none σ' | .cont => False)) := by
  intro A s ρ σ avs vs Kc Q E hB st D R hw hP
  have X : K.In s.heap := T.X.keeps st
  obtain ⟨o, zq0⟩ := F.obj; have ho := zq0.1; have hd := zq0.2
  exact N.callFn (by have := hB.dp; show A.depth < 1000; (exact Nat.lt_of_succ_le (by lia))) (X _ _ ho) hd F.co F.gen F.body (code_of F.code _ X) (aB (hb s vs X (by rw [dB R, hw.1]) _ _ _ _ (fn_after T F nd hS hB st D R hw.1.symm hw.2 hP)))
set_option tactic.hygienic true in
theorem fnB_of {f : Addr} {names rest : List Str} {irs : List IS} (h : chkFn K f names rest irs = true) : ∃ fd body, FnB K f fd body names /\ dC (chkS 30 (names ++ rest) fd.scope) body irs = true := by
  unfold chkFn at h
  split at h
  . rename_i fd hfd
    simp only [Bool.and_eq_true, beq_iff_eq, Bool.not_eq_true', List.all_eq_true] at h
    refine bcn fun nG => ?_; obtain ⟨⟨⟨⟨⟨⟨⟨⟨h1, h2⟩, h3⟩, h4⟩, h5⟩, h6⟩, h7⟩, h8⟩, h9⟩ := h
    refine nG ?_; split at h1
    . rename_i b hbody
      refine ⟨fd, b, ⟨hfd, hbody, h2, h3, by simpa using h4, h9, h5, h6, h7, fun x hx => ?_⟩, h1⟩
      have := h8 x hx
      unfold KindOk
      induction hq : fd.scope.names.lookup x using Option.casesOn with
      | none => rw [hq] at this; exact ff this
      | some k => rw [hq] at this; induction k using NameKind.casesOn <;> first | exact .inl rfl | exact .inr rfl | cases this
    . exact ff h1
  . exact ff h
noncomputable def chkB (K : Frag) (f : Addr) (names : List Str) (shape : List Stmt -> Bool) : Bool := match fnOf K f with
  | some fd => (match fd.body with | .stmts b => shape b | _ => false) && fd.globals == mainGlobals && fd.builtins == builtinsNs && fd.closure.isEmpty && !fd.scope.isCoroutine && !fd.scope.isGenerator && fd.scope.kind == .function && names.all (fun x => stK (fd.scope.names.lookup x)) && codeOk K fd.code fd.qualname
  | none => false
set_option tactic.hygienic true in
theorem iI {f : Addr} {names : List Str} {shape : List Stmt -> Bool} (h : chkB K f names shape = true) : ∃ fd body, FnB K f fd body names /\ shape body = true := by
  unfold chkB at h
  split at h
  . rename_i fd hfd
    simp only [Bool.and_eq_true, beq_iff_eq, Bool.not_eq_true', List.all_eq_true] at h
    refine bcn fun nG => ?_; obtain ⟨⟨⟨⟨⟨⟨⟨⟨h1, h2⟩, h3⟩, h4⟩, h5⟩, h6⟩, h7⟩, h8⟩, h9⟩ := h
    refine nG ?_; split at h1
    . rename_i b hbody
      refine ⟨fd, b, ⟨hfd, hbody, h2, h3, by simpa using h4, h9, h5, h6, h7, fun x hx => ?_⟩, h1⟩
      have := h8 x hx
      unfold KindOk
      induction hq : fd.scope.names.lookup x using Option.casesOn with
      | none => rw [hq] at this; exact ff this
      | some k => rw [hq] at this; induction k using NameKind.casesOn <;> first | exact .inl rfl | exact .inr rfl | cases this
    . exact ff h1
  . exact ff h
theorem sndB_of {Γ : Fns} {n m : Nat} {vars : List Str} {scope : Scope} {body : List Stmt} {irs : List IS} (hc : dC (chkS m vars scope) body irs = true) (hS : SndS prog w g lev vars (wp Γ n)) : SndB prog w g lev vars scope body ((wp Γ n).s irs) :=
  fun env he A s ρ σ fr Kc Q E hB H hw hP => hS m env body irs (by rw [he]; exact hc) A s ρ σ fr Kc Q E hB H hw hP
theorem code_ent {Γ : Fns} (L : Leaf prog w g K) {e : Ent} (he : e ∈ ents) (hd : e.dav = false) (h : EntOk K e) (hΓ : GV prog w g lev Γ) {args : List Value -> Args}
    (hb : ∀ fd, fnOf K e.f = some fd -> ∀ (s : Shared) (vals : List Value), K.In s.heap -> vals.length = e.names.length -> BindsTo s fd (args vals) (e.names.zip vals)) : CodeOk prog w g (lev + 1) e.f args (aR Γ fuel e.irs e.nv e.davs e.rest.length) := by
  have hn := List.all_eq_true.mp nd_ents e he
  simp only [Bool.and_eq_true, decide_eq_true_eq] at hn
  refine bcn fun nG => ?_; obtain ⟨fd, body, zq0⟩ := fnB_of h.chk; have F := zq0.1; have hc := zq0.2
  have hS := (wp_sound L.T L.KF hΓ (L.bfs lev) (L.pk lev) L.pm (L.bs lev) (L.nb lev) (L.sb lev) hn.1 fuel).2.2
  have := code_after L.T F hn.1 (sndB_of hc hS) (args := args) (fun s vals X hl => hb fd F.at_ s vals X hl)
  refine nG ?_; intro A s ρ σ avs vs Kc Q E hB st D R hw hP
  have e1 : e.davs = [] := by unfold Ent.davs; rw [hd]; rfl
  have e2 : e.nv = e.names.length := by unfold Ent.nv; rw [e1]; rfl
  refine this A s ρ σ avs vs Kc Q E hB st D R ?_ hP
  have a := hw.1; have b := hw.2; clear hw
  rw [e1] at b
  exact ⟨a.trans e2, b⟩
end
end Fb
namespace Fb
noncomputable def isFin (bv : Bool) (body : List Stmt) : Bool := on1 body fun st => onRet st fun v => fQ v fun e => onCallK e fun g xs ks p => on2 xs fun y c => on1 ks fun k => dX g fun o a ap =>
  isNm (Str.ofString "self") o && a == Str.ofString "_Builder__Finish" && isNm (Str.ofString "rootTable") y && jS c (fun c => isB c bv) && k.arg == some (Str.ofString "file_identifier") && isNm (Str.ofString "file_identifier") k.value && ap.endLine == p.line
noncomputable def bJ : List Str := [Str.ofString "self", Str.ofString "rootTable", Str.ofString "file_identifier"]
noncomputable def pF : List Value -> Args
  | [a, b, c, d] => ⟨[a, b, c], [(Str.ofString "file_identifier", d)]⟩
  | _ => ⟨[], []⟩
noncomputable def finWs (bv : Bool) (S : Fn) (fr : List AV) (σ : St) (Kc : Fl -> List AV -> St -> Prop) : Prop := ∃ r fi, fr = [.bld, r, fi] /\ r ≠ .unb /\ fi ≠ .unb /\ S [.bld, r, .bool bv, fi] σ fun v σ' => Kc (.ret v) fr σ'
section
variable {prog : Program} {w : World} {g : Heap} {lev : Nat} {K : Frag}
theorem evalArgs_kw {M : Model} {A : Around} {E : Value -> Shared -> Prop} {s : Shared} {f : Value} {x y : Sem Value} {k : Str} {z : Sem Value} {Q : Args -> Shared -> Prop} (h : wpN M A (spliced [(false, x), (false, y)]) (fun vs s' => wpN M A z (fun v s'' => Q ⟨vs, [(k, v)]⟩ s'') E s') E s) : wpN M A (PySem.evalArgs f true [(false, x), (false, y)] [(some k, z)]) Q E s := by
  unfold PySem.evalArgs
  show wpN M A (spliced [(false, x), (false, y)] >>= _) Q E s
  refine aA (aD h (fun vs s' h' => ?_) fun _ _ x => x)
  refine aA (aC ?_)
  refine aI ?_
  refine (show wpN M A (evalAll [z] >>= fun l => pure (⟨vs, ([k]).zip l⟩ : Args)) Q E s' from ?_)
  unfold evalAll
  refine aA (aA (aD h' (fun v s'' hq => ?_) fun _ _ x => x))
  refine aA (aI ?_)
  unfold evalAll
  exact aC (aC (aC hq))
theorem fin_body (T : Stat K g) (KF : KFacts K) {bv : Bool} {body : List Stmt} {scope : Scope} {S : Fn} (hs : isFin bv body = true) (hk : ∀ x ∈ bJ, KindOk scope x) (hc : CodeOk prog w g lev 499 pF S) : SndB prog w g lev bJ scope body (finWs bv S) := by
  intro env he A s ρ σ fr Kc Q E hB H hw hP
  obtain ⟨r, fi, rfl, hr, hfi, hw⟩ := hw
  refine bW hs fun st0 hs_1 => ?_
  refine nV hs_1 fun v0 p6 hs_2 => ?_
  refine cN hs_2 fun e1 hs_3 => ?_
  refine onCallK_el hs_3 fun g0 xs ks p hs_4 => ?_
  refine fE hs_4 fun y0 c0 hs_5 => ?_
  refine bW hs_5 fun kw hs_6 => ?_
  obtain ⟨karg, kval, p5⟩ := kw
  refine bK hs_6 fun o0 a ap hs_7 => ?_
  obtain ⟨w1, hl⟩ := an hs_7
  obtain ⟨w2, w3⟩ := an w1
  obtain ⟨w4, w5⟩ := an w2
  obtain ⟨w6, w7⟩ := an w4
  obtain ⟨w8, w9⟩ := an w6
  obtain ⟨wA, wB⟩ := an w8
  obtain ⟨p1, rfl⟩ := bP wA
  obtain rfl : a = _ := eq_of_beq wB
  obtain ⟨p2, rfl⟩ := bP w9
  refine eI w7 fun c1 kd p3 w7_1 => ?_
  obtain rfl := isB_eq w7_1
  obtain rfl : karg = _ := eq_of_beq w5
  obtain ⟨p4, rfl⟩ := bP w3
  have hl : ap.endLine = p.line := eq_of_beq hl
  . refine N.eCons (N.eRet ?_)
    have vis : ∀ x ∈ bJ, Vis env x := fun x hx => by
      have := hk x hx
      unfold KindOk at this
      rw [<- he] at this
      rcases this with q | q
      . exact .inl q
      . exact .inr (.inl q)
    have e0 : ∀ (w : Expr) (y : Str) (p2 : Pos) (c : Const) (kd : Nat) (p3 ap pos p5 : Pos) (a k : Str), eval (.Call (.Attribute (.Name (Str.ofString "self") p1) a ap) [.Name y p2, .Constant c kd p3] [⟨some k, w, p5⟩] pos) env = (do
        let ov <- eval (.Name (Str.ofString "self") p1) env
        standAt ap.atName
        methodCall (.Name (Str.ofString "self") p1) a ap pos env ov 3 [(false, eval (.Name y p2) env), (false, eval (.Constant c kd p3) env)] [(some k, do let v <- eval w env; standAt pos; pure v)]) := fun _ _ _ _ _ _ _ _ _ _ _ => rfl
    rw [e0]
    refine aM (jB H (i := 0) rfl (vis _ (by decide)) rfl (fun q => nomatch q) (by decide) (by decide) fun v rv => ?_)
    cases rv
    refine aA (aK ?_)
    unfold methodCall calleeOf methodCallPos
    rw [show methodCallForm 3 [(false, eval (.Name (Str.ofString "rootTable") p2) env), (false, eval (.Constant (.bool bv) kd p3) env)] [(some (Str.ofString "file_identifier"), (do let v <- eval (.Name (Str.ofString "file_identifier") p4) env; standAt p; pure v : Sem Value))] = true from rfl, show (ap.endLine == p.line) = true from beq_iff_eq.mpr hl]
    simp only [if_true, Bool.not_true, Bool.false_or]
    refine aA (aI (aB (fnMeth T KF H.st H.dyn (i := 19) rfl ?_)))
    refine aA (aC ?_)
    obtain ⟨b1, b2, b3, b4⟩ := KF.meth 19 _ _ rfl
    refine N.callWith (P := K.In) rfl (keeps_K b4) (evalArgs_kw (N.cons (aB (jB H (i := 1) rfl (vis _ (by decide)) rfl hr (by decide) (by decide) fun vr rr => ?_))))
    refine N.cons (aB (Constant_bool ?_))
    refine N.nil ?_
    refine aA (aB (jB H (i := 2) rfl (vis _ (by decide)) rfl hfi (by decide) (by decide) fun vf rf => ?_))
    refine aA (aK (aC ⟨T.X.keeps H.st, ?_⟩))
    refine cX (hc A s ρ σ [.bld, r, .bool bv, fi] [.ref ρ.b, vr, .bool bv, vf] _ _ E hB H.st H.dyn (.cons .bld (.cons rr (.cons (.bool _) (.cons rf .nil)))) hw ?_)
    intro av v ρ' σ' h' tk hk' D' S' R'
    exact hP (.ret av) (.ret v) _ ρ' σ' h' tk hk' (H.step D' S') (S'.weaken fun _ q => q.elim) (.ret R')
end
end Fb
set_option genInjectivity false
set_option genCtorIdx false
set_option genSizeOf false
namespace Fb
noncomputable def isU8 (body : List Stmt) : Bool := on1 body fun st => onExprS st fun e => dA e fun g xs _ => on2 xs fun y z => dX g fun o a _ => onStar z fun z => isNm (Str.ofString "self") o && a == Str.ofString "PrependSlot" && isNm (Str.ofString "Uint8Flags") y && isNm (Str.ofString "args") z
noncomputable def kP : List Str := [Str.ofString "self", Str.ofString "args"]
structure U8F (K : Frag) : Prop where
  pg : plainGet K 729 (Str.ofString "PrependSlot") = true
  fo : findObj K 729 (some (dictOf [] 0)) (Str.ofString "PrependSlot") = some (.bind (.builtin "function.__get__") (.ref 529))
  ty : typeIn K (.ref 529) = some (.type "function")
  fn : fnIn K 529 = true
noncomputable def u8Ws (S : Fn) (fr : List AV) (σ : St) (Kc : Fl -> List AV -> St -> Prop) : Prop := ∃ a x d, fr = [.bld, .tup [a, x, d]] /\ S [.bld, .cst (.ref 84), a, x, d] σ fun _ σ' => Kc .next fr σ'
section
variable {prog : Program} {w : World} {g : Heap} {lev : Nat} {K : Frag}
theorem methodCallN {p : Addr} {f self : Value} {pos : List Value} {kw : List (Str × Value)} {A : Around} {s : Shared} {R : Result -> Shared -> Prop} (ho : s.heap.get? p = some (methodObj f self))
    (h : bQ (model prog w) A (.call f ⟨self :: pos, kw⟩) R s) : bQ (model prog w) A (.call (.ref p) ⟨pos, kw⟩) R s := by
  refine bB rfl ?_
  show wpN _ A.in1 (callAny (.ref p) ⟨pos, kw⟩) _ _ s
  simp only [callAny]
  refine aM (wpAny_load ho ?_)
  cases f <;> exact aC ⟨rfl, h⟩
theorem spliced_star {M : Model} {A : Around} {E : Value -> Shared -> Prop} {s : Shared} {x : Sem Value} {Q : List Value -> Shared -> Prop} (h : wpN M A x (fun v sG => wpN M A (notIterableAtAll v) (fun b sH => b = false /\ wpN M A (collect v) Q E sH) E sG) E s) : wpN M A (spliced [(true, x)]) Q E s := by
  rw [spliced]
  refine aA (aD h (fun v sG hG => ?_) fun _ _ x => x)
  simp only [if_true]
  refine aA (aD hG (fun b sH hH => ?_) fun _ _ x => x)
  obtain ⟨rfl, hH⟩ := hH
  refine aT Bool.false_ne_true ?_
  refine aA (aD hH (fun vs sJ hJ => ?_) fun _ _ x => x)
  refine aA (aI (N.nil (aC ?_)))
  rw [List.append_nil]; exact hJ
theorem callWith_star {M : Model} {A : Around} {E : Value -> Shared -> Prop} {s : Shared} {f : Value} {pos : Pos} {x y : Sem Value} {Q : Value -> Shared -> Prop}
    (h : wpN M A (spliced [(false, x), (true, y)]) (fun vs sG => Looks M sG.heap (keeperOf f) .boundFrame /\ wpN M A (call f vs) Q E sG) E s) : wpN M A (PySem.callWith pos f [] [(false, x), (true, y)] []) Q E s := by
  unfold PySem.callWith
  refine aA (aI (N.evalArgs (aD h (fun vs sG hG => aA (aK ?_)) fun _ _ x => x)))
  refine aM (hG.1.here ?_)
  dsimp only
  refine aA ?_
  refine aD (N.operate hG.2) (fun r sH hr => ?_) fun _ _ x => x
  exact aA (aI (aB (wpAny_point (aC hr))))
theorem u8_body (T : Stat K g) (KF : KFacts K) (U : U8F K) {body : List Stmt} {scope : Scope} {S : Fn} (hs : isU8 body = true) (hk : ∀ x ∈ kP, KindOk scope x) (hg : scope.names.lookup (Str.ofString "Uint8Flags") = some .globalImplicit) (hc : CodeOk prog w g lev 529 (fun vs => ⟨vs, []⟩) S) : SndB prog w g lev kP scope body (u8Ws S) := by
  intro env he A s ρ σ fr Kc Q E hB H hw hP
  obtain ⟨a, x, d, rfl, hw⟩ := hw
  refine bW hs fun st0 hs_1 => ?_
  refine onExprS_el hs_1 fun e1 p6 hs_2 => ?_
  refine bA hs_2 fun g0 xs p hs_3 => ?_
  refine fE hs_3 fun y0 z0 hs_4 => ?_
  refine bK hs_4 fun o0 a1 ap hs_5 => ?_
  refine onStar_el hs_5 fun z1 p4 hs_6 => ?_
  refine bcn fun nG => ?_; obtain ⟨w1, w2⟩ := an hs_6
  obtain ⟨w3, w4⟩ := an w1
  obtain ⟨w5, w6⟩ := an w3
  refine nG ?_; obtain ⟨p1, rfl⟩ := bP w5
  obtain rfl : a1 = _ := eq_of_beq w6
  obtain ⟨p2, rfl⟩ := bP w4
  obtain ⟨p3, rfl⟩ := bP w2
  . have vis : ∀ x ∈ kP, Vis env x := fun x hx => by
      have := hk x hx
      unfold KindOk at this
      rw [<- he] at this
      rcases this with q | q
      . exact .inl q
      . exact .inr (.inl q)
    refine N.eCons (N.eExpr ?_ (notInter H.ok) (dP rfl))
    have e0 : ∀ (y z : Str) (p2 p3 p4 ap pos : Pos) (a : Str), eval (.Call (.Attribute (.Name (Str.ofString "self") p1) a ap) [.Name y p2, .Starred (.Name z p3) p4] [] pos) env = (do
        let ov <- eval (.Name (Str.ofString "self") p1) env
        standAt ap.atName
        methodCall (.Name (Str.ofString "self") p1) a ap pos env ov 2 [(false, eval (.Name y p2) env), (true, do let v <- eval (.Name z p3) env; standAt pos; pure v)] []) := fun _ _ _ _ _ _ _ _ => rfl
    rw [e0]
    refine aM (jB H (i := 0) rfl (vis _ (by decide)) rfl (fun q => nomatch q) (by decide) (by decide) fun v rv => ?_)
    cases rv
    refine aA (aK ?_)
    unfold methodCall calleeOf methodCallPos
    rw [show methodCallForm 2 [(false, eval (.Name (Str.ofString "Uint8Flags") p2) env), (true, (do let v <- eval (.Name (Str.ofString "args") p3) env; standAt p; pure v : Sem Value))] [] = false from rfl]
    refine aA (aI ?_)
    refine bcn fun nG => ?_; obtain ⟨sl, f1, f2, f3⟩ := H.dyn.ob
    have I : InstAt s.heap ρ.b _ 729 (some (dictOf [] 0)) := ⟨f1, rfl, rfl, H.dyn.dx⟩
    have X := T.X.keeps H.st
    refine nG ?_; refine aA (aB (get_bind X I (plainGet_of U.pg).1 U.fo (plainGet_of U.pg).2 (wpAny_call (fn_get (s := { s with toks := s.toks + 1 }) X U.ty (handed_on rfl ?_)))))
    refine aC ?_
    refine aA (aC ?_)
    have G := Grows.push s.heap (methodObj (.ref 529) (.ref ρ.b))
    have HG : Act g ρ σ env kP [.bld, .tup [a, x, d]] (s.heap.push (methodObj (.ref 529) (.ref ρ.b))) := H.step (H.dyn.grow G) G.stp
    have em : (s.heap.push (methodObj (.ref 529) (.ref ρ.b))).get? s.heap.objs.size = some (methodObj (.ref 529) (.ref ρ.b)) := Heap.get?_push_size _ rfl
    generalize s.heap.objs.size = q at em ⊢
    refine callWith_star ?_
    refine N.cons (aB (eL T KF HG (i := 17) rfl (by show env.scope.names.lookup _ = _; rw [he]; exact hg) (by decide) fun vc rc => ?_))
    cases rc
    refine spliced_star ?_
    refine aA (aB (jB HG (i := 1) rfl (vis _ (by decide)) rfl (fun q => nomatch q) (by decide) (by decide) fun vt rt => ?_))
    obtain ⟨ta, tvs, tn, rfl, tf, te, tr⟩ := rt.tup_inv
    refine aA (aK (aC ?_))
    have hT : ((Fb.sh s (s.heap.push (methodObj (.ref 529) (.ref ρ.b))) (s.toks + 1)) : Shared).TypeIs (.ref ta) "tuple" := ⟨_, te, rfl⟩
    unfold notIterableAtAll
    refine aM (wpAny_specialOf hT PySem.F.slot_tuple_iter.lookup (aC ⟨rfl, ?_⟩))
    have hlen := dB tr
    refine aB (wpAny_collect_seq ta (.inr rfl) te rfl rfl (fun h' k => ?_) (by rw [sizeLine_eq]; simp at hlen; (rw [hlen]; decide)))
    have G2 : Grows _ h' := k
    have HH := HG.step (HG.dyn.grow G2) G2.stp
    refine ⟨(Looks.ld (part := none) (G2 _ _ em)).andThen ?_, ?_⟩
    . have hf := U.fn
      unfold fnIn at hf
      split at hf
      . rename_i e
        exact (Looks.ld (part := none) (T.X.keeps HH.st _ _ e)).andThen .now
      . exact ff hf
    refine cX (methodCallN (G2 _ _ em) ?_)
    refine hc A _ ρ σ [.bld, .cst (.ref 84), a, x, d] _ _ _ E hB HH.st HH.dyn (.cons .bld (.cons (.cst _) (tr.step G2.stp))) hw ?_
    intro av v ρ' σ' h'' tk hk' D' S' R'
    exact N.eNil (hP .next .next _ ρ' σ' h'' tk hk' (HH.step D' S') (((G.stp.trans G2.stp).trans S').weaken fun _ q => q.elim) .next)
end
end Fb
set_option genInjectivity false
set_option genCtorIdx false
set_option genSizeOf false
namespace Fb
structure OddF (K : Frag) : Prop where
  f0 : chkB K 507 bJ (isFin false) = true
  f1 : chkB K 515 bJ (isFin true) = true
  u8 : chkB K 550 kP isU8 = true
  ug : ∀ fd, fnOf K 550 = some fd -> fd.scope.names.lookup (Str.ofString "Uint8Flags") = some .globalImplicit
  b0 : ∀ fd, fnOf K 507 = some fd -> ∀ (s : Shared) a b c, K.In s.heap -> BindsTo s fd ⟨[a, b, c], []⟩ (bJ.zip [a, b, c])
  b1 : ∀ fd, fnOf K 515 = some fd -> ∀ (s : Shared) a b c, K.In s.heap -> BindsTo s fd ⟨[a, b, c], []⟩ (bJ.zip [a, b, c])
  bk : ∀ fd, fnOf K 499 = some fd -> ∀ (s : Shared) a b c d, K.In s.heap -> BindsTo s fd (pF [a, b, c, d]) (bO.zip [a, b, c, d])
  bu : ∀ fd, fnOf K 550 = some fd -> ∀ a b c d, bindArgs fd ⟨[a, b, c, d], []⟩ = (newTuple [b, c, d] >>= fun t => pure [(Str.ofString "self", a), (Str.ofString "args", t)])
  us : U8F K
theorem nd_fin : (bJ ++ []).Nodup := by decide
theorem nd_u8 : (kP ++ []).Nodup := by decide
theorem RV.ne_unb {ρ : Ad} {σ : St} {h : Heap} {a : AV} {v : Value} (r : RV ρ σ h a v) : a ≠ .unb := by
  rintro rfl; cases r
section
variable {prog : Program} {w : World} {g : Heap} {lev : Nat} {K : Frag}
set_option tactic.hygienic true in
theorem fin_fun (L : Leaf prog w g K) {f : Addr} {bv : Bool} {S : Fn} (hc : chkB K f bJ (isFin bv) = true) (hb : ∀ fd, fnOf K f = some fd -> ∀ (s : Shared) a b c, K.In s.heap -> BindsTo s fd ⟨[a, b, c], []⟩ (bJ.zip [a, b, c])) (h : CodeOk prog w g lev 499 pF S) : FunOk prog w g (lev + 1) f (finS bv S) := by
  refine bcn fun nG => ?_; obtain ⟨fd, body, zq0⟩ := iI hc; have F := zq0.1; have hs := zq0.2
  have C := (code_after L.T F nd_fin (fin_body L.T L.KF hs F.kinds h) (args := fun vs => ⟨vs, []⟩) (fun s vals X hl => by
    match vals, hl with
    | [a, b, c], _ => exact hb fd F.at_ s a b c X)).fun
  refine nG ?_; intro A s ρ σ avs vs Kc Q E hB st D R hw hP
  unfold finS at hw
  split at hw
  . rename_i r fi
    refine C A s ρ σ _ vs Kc Q E hB st D R ⟨rfl, ?_⟩ hP
    cases R with
    | cons r1 R => cases R with
      | cons r2 R => cases R with
        | cons r3 R => exact ⟨r, fi, rfl, r2.ne_unb, r3.ne_unb, hw⟩
  . exact hw.elim
set_option tactic.hygienic true in
theorem u8_fun (L : Leaf prog w g K) (O : OddF K) {S : Fn} (h : CodeOk prog w g lev 529 (fun vs => ⟨vs, []⟩) S) : FunOk prog w g (lev + 1) 550 (u8S S) := by
  refine bcn fun nG => ?_; obtain ⟨fd, body, zq0⟩ := iI O.u8; have F := zq0.1; have hs := zq0.2
  refine nG ?_; intro A s ρ σ avs vs Kc Q E hB st D R hw hP
  unfold u8S at hw
  split at hw
  . rename_i a x d
    cases R with
    | cons r1 R => cases R with
      | cons r2 R => cases R with
        | cons r3 R => cases R with
          | cons r4 R =>
            cases R
            rename_i v1 v2 v3 v4
            have X : K.In s.heap := L.T.X.keeps st
            refine bcn fun nG => ?_; obtain ⟨o, zq0⟩ := F.obj; have ho := zq0.1; have hd := zq0.2
            have G := Grows.push s.heap (tob #[v2, v3, v4] 0)
            refine nG ?_; refine cX (N.callFn (by have := hB.dp; show A.depth < 1000; (exact Nat.lt_of_succ_le (by lia))) (X _ _ ho) hd F.co F.gen F.body (code_of F.code _ X) ?_)
            rw [O.bu fd F.at_]
            refine aA (aB (wpAny_newTuple ?_ (by rw [sizeLine_eq]; exact Nat.le_of_ble_eq_true rfl)))
            refine aC ?_
            refine fn_after (s := { s with heap := s.heap.push (tob #[v2, v3, v4] 0) }) (avs := [.bld, .tup [a, x, d]]) (vs := [v1, .ref s.heap.objs.size]) L.T F nd_u8 (u8_body L.T L.KF O.us hs F.kinds (O.ug fd F.at_) h) hB (fun y o q => G y o (st y o q)) (D.grow G) (.cons (r1.step G.stp) (.cons (.tup (D.fresh (Nat.le_refl _)) (Heap.get?_push_size _ rfl) (.cons (r2.step G.stp) (.cons (r3.step G.stp) (.cons (r4.step G.stp) .nil)))) .nil)) rfl ⟨a, x, d, rfl, ?_⟩ (hP.after G.stp)
            exact hw
  . exact hw.elim
theorem ent_fin : (⟨499, bO, jW, lK, false⟩ : Ent) ∈ ents := List.mem_of_find?_eq_some (show tab 499 = some _ from by rfl)
theorem ent_slot : (⟨529, dD, dT, dR, false⟩ : Ent) ∈ ents := List.mem_of_find?_eq_some (show tab 529 = some _ from by rfl)
theorem odd_ok4 (L : Leaf prog w g K) (O : OddF K) {lev : Nat} (ik : CodeOk prog w g lev 499 pF (Gam lev 499)) (iu : CodeOk prog w g lev 529 (fun vs => ⟨vs, []⟩) (Gam lev 529)) (f : Addr) : FunOk prog w g (lev + 1) f (odd (Gam lev) f) := by
  by_cases h0 : f = 507
  . subst h0; exact fin_fun L O.f0 O.b0 ik
  by_cases h1 : f = 515
  . subst h1; exact fin_fun L O.f1 O.b1 ik
  by_cases h2 : f = 550
  . subst h2; exact u8_fun L O iu
  rw [show odd (Gam lev) f = fun _ _ _ => False from by unfold odd; rw [if_neg h0, if_neg h1, if_neg h2]]
  intro A s ρ σ avs vs Kc Q E _ _ _ _ h _; exact h.elim
theorem gam_ok (L : Leaf prog w g K) (hE : ∀ e ∈ ents, EntOk K e) (O : OddF K) (lev : Nat) : GV prog w g lev (Gam lev) /\ CodeOk prog w g lev 499 pF (Gam lev 499) /\ CodeOk prog w g lev 529 (fun vs => ⟨vs, []⟩) (Gam lev 529) := by
  induction lev with
  | zero => exact ⟨fun _ _ _ _ _ _ _ _ _ _ _ _ _ _ h _ => h.elim, fun _ _ _ _ _ _ _ _ _ _ _ _ _ h _ => h.elim, fun _ _ _ _ _ _ _ _ _ _ _ _ _ h _ => h.elim⟩
  | succ lev ihh =>
    have ih := ihh.1; have ik := ihh.2.1; have iu := ihh.2.2; clear ihh
    refine ⟨fun f => ?_, ?_, ?_⟩
    . induction hf : tab f using Option.casesOn with
      | some e =>
        have hm := List.mem_of_find?_eq_some hf
        have hef : (e.f == f) = true := List.find?_some (p := fun e : Ent => e.f == f) hf
        rw [aO hf, <- eq_of_beq hef]
        exact fun_ent L hm (hE e hm) ih
      | none => rw [gam_odd hf]; exact odd_ok4 L O ik iu f
    . rw [aO (e := ⟨499, bO, jW, lK, false⟩) (by rfl)]
      refine code_ent L ent_fin rfl (hE _ ent_fin) ih fun fd hfd s vals X hl => ?_
      match vals, hl with
      | [a, b, c, d], _ => exact O.bk fd hfd s a b c d X
    . rw [aO (e := ⟨529, dD, dT, dR, false⟩) (by rfl)]
      refine code_ent L ent_slot rfl (hE _ ent_slot) ih fun fd hfd s vals X hl => ?_
      have := (hE _ ent_slot).bind fd hfd s vals X (by rw [hl]; rfl)
      rw [if_neg Bool.false_ne_true, List.append_nil] at this
      exact this
end
end Fb
set_option genInjectivity false
set_option genCtorIdx false
set_option genSizeOf false
namespace Fb
structure Env0 (g : Heap) (env : Env) (h : Heap) (m : Str -> Option Value) : Prop where
  ok : EnvOk env
  ns : h.Ns env.locals m
  st : g.StaysIn h
  off : g.get? env.locals = none
theorem Env0.grow {g : Heap} {env : Env} {h h' : Heap} {m : Str -> Option Value} (H : Env0 g env h m) (G : Grows h h') : Env0 g env h' m :=
  ⟨H.ok, H.ns.at' fun o e => G _ o e, fun a o e => G a o (H.st a o e), H.off⟩
section
variable {prog : Program} {w : World} {g : Heap} {K : Frag} {A : Around} {E : Value -> Shared -> Prop} {s : Shared} {env : Env} {m : Str -> Option Value}
theorem ev_nm {x : Str} {e : Expr} {v : Value} {Q : Value -> Shared -> Prop} (he : isNm x e = true) (H : Env0 g env s.heap m) (k : env.kindOf x = some .local) (hm : m x = some v) (hd : (x == ("__debug__" : Str)) = false) (h : Q v s) : wpN (model prog w) A (eval e env) Q E s := by
  obtain ⟨p, rfl⟩ := bP he
  exact aB (wpAny_Name (wpAny_loadName_local H.ok.fn k H.ns hm h) hd)
theorem gN {i : Int} {e : Expr} {Q : Value -> Shared -> Prop} (he : isInt i e = true) (h : Q (.int i s.toks) { s with toks := s.toks + 1 }) : wpN (model prog w) A (eval e env) Q E s := by
  obtain ⟨k, p, rfl⟩ := isInt_inv he
  exact aB (wpAny_Constant_int h)
theorem ix_list {value slice : Expr} {a : Addr} {vs : Array Value} {i : Int} {t : Tok} {v : Value} {Q : Value -> Shared -> Prop} (hns : gG slice = true) (hl : s.heap.IsList a vs) (h0 : 0 <= i) (h1 : i <= 1000000) (hs : vs.size <= 1000000) (hv : vs[i.toNat]? = some v) (h : Q v s) : wpAny (model prog w) A (subscriptTail value slice (.ref a) (.int i t)) Q E s := by
  have szl : sizeLine = 16777216 := sizeLine_eq
  exact tail_any hl.typeIs slot_list_getitem.lookup (wpAny_getItem_list hl (by assumption) (by exact Int.lt_of_le_of_lt (by assumption) (by decide)) hv h) (eY hns)
theorem ev_ix {x : Str} {i : Int} {e : Expr} {a : Addr} {vs : Array Value} {v : Value} {Q : Value -> Shared -> Prop} (he : isIx x i e = true) (H : Env0 g env s.heap m) (k : env.kindOf x = some .local) (hm : m x = some (.ref a)) (hd : (x == ("__debug__" : Str)) = false) (hl : s.heap.IsList a vs) (h0 : 0 <= i) (h1 : i <= 1000000) (hs : vs.size <= 1000000) (hv : vs[i.toNat]? = some v) (h : Q v { s with toks := s.toks + 1 }) : wpN (model prog w) A (eval e env) Q E s := by
  obtain ⟨p1, kk, p2, p3, rfl⟩ := isIx_inv he
  refine N.Subscript (aB (wpAny_Name (wpAny_loadName_local H.ok.fn k H.ns hm ?_) hd))
  refine aB (wpAny_Constant_int ?_)
  exact aB (ix_list (s := { s with toks := s.toks + 1 }) rfl hl h0 h1 hs hv h)
theorem oK (T : Stat K g) (KF : KFacts K) {x : Str} {i : Nat} {v : Value} {e : Expr} {Q : Value -> Shared -> Prop} (he : isNm x e = true) (H : Env0 g env s.heap m) (hi : bN[i]? = some (x, .cst v)) (hx : env.kindOf x = some .globalImplicit)
    (hd : (x == ("__debug__" : Str)) = false) (h : Q v s) : wpN (model prog w) A (eval e env) Q E s := by
  obtain ⟨p, rfl⟩ := bP he
  have G := KF.glob i x _ hi
  refine bcn fun nG => ?_; obtain ⟨mg, mb, zq0⟩ := T.top; have hg := zq0.1; have hb := zq0.2.1; have hboot := zq0.2.2
  have hg' : s.heap.Ns env.globals mg := by rw [H.ok.gl]; exact hg.keeps H.st
  have hb' : s.heap.Ns env.builtins mb := by rw [H.ok.bi]; exact hb.keeps H.st
  refine nG ?_; refine aB (Name_function_global H.ok.fn hx ?_ hd)
  rcases G with e | ⟨e, e2, e3⟩
  . exact loadGlobal_global hg' (mg_of T.X hg e) h
  . exact loadGlobal_builtin hg' (mg_none_of T.X hg e) hb' ((hboot x e3).trans e2) h
theorem st_nm {x : Str} {v : Value} {Q : Unit -> Shared -> Prop} (H : Env0 g env s.heap m) (k : env.kindOf x = some .local)
    (h : ∀ h' tk, Env0 g env h' (fun y => if y = x then some v else m y) -> (∀ a o, a ≠ env.locals -> s.heap.get? a = some o -> h'.get? a = some o) -> Q () (Fb.sh s h' tk)) : wpAny (model prog w) A (storeName env x v) Q E s := by
  refine wpAny_storeName_local k H.ns (fun h' hn' hs => ?_) (by rw [H.ok.fn]; rfl)
  have kp : ∀ a o, a ≠ env.locals -> s.heap.get? a = some o -> h'.get? a = some o := fun a o na e => (hs.2 a na).trans e
  exact h h' _ ⟨H.ok, hn', fun a o e => kp a o (fun q => by subst q; rw [H.off] at e; exact nn e) (H.st a o e), H.off⟩ kp
theorem enter0 (T : Stat K g) {f : Addr} {fd : FuncData} {body : List Stmt} {names : List Str} {vs : List Value} {lev : Nat} {args : Args} {R : Result -> Shared -> Prop} (F : FnB K f fd body names) (nd : names.Nodup) (hloc : ∀ x ∈ names, fd.scope.names.lookup x = some .local) (hB : Bud (lev + 1) A) (st : g.StaysIn s.heap) (hlen : names.length = vs.length) (hb : BindsTo s fd args (names.zip vs))
    (h : ∀ env hG tkG m, env.scope = fd.scope -> Env0 g env hG m -> Grows s.heap hG -> s.heap.objs.size <= env.locals -> (∀ (i : Nat) x v, names[i]? = some x -> vs[i]? = some v -> m x = some v) -> env.cells = cellsFrom (s.heap.objs.size + 1) fd.scope.names [] ->
      wpN (model prog w) (A.deeper env) (execs body env) (fun f s' => R (.ok (.ret (match f with | .ret v => v | _ => .none))) s') N.No (Fb.sh s hG tkG)) :
    bQ (model prog w) A (.call (.ref f) args) R s := by
  have X : K.In s.heap := T.X.keeps st
  refine bcn fun nG => ?_; obtain ⟨o, zq0⟩ := F.obj; have ho := zq0.1; have hd := zq0.2
  refine nG ?_; refine N.callFn (by have := hB.dp; show A.depth < 1000; (exact Nat.lt_of_succ_le (by lia))) (X _ _ ho) hd F.co F.gen F.body (code_of F.code _ X) ?_
  refine aB (hb _ _ _ _ ?_)
  rw [F.clo]
  have hkind : ∀ x ∈ names.zip vs, fd.scope.names.lookup x.1 = some .local \/ (fd.scope.names.lookup x.1 = some .cell /\ ((cellsFrom (s.heap.objs.size + 1) fd.scope.names []).lookup x.1).isSome = true) := fun x hx => .inl (hloc x.1 (List.of_mem_zip hx).1)
  refine aB (wpAny_newFunctionEnv_cells F.fn hkind fun env he sG x => ?_)
  refine ⟨(T.lim.keeps st).keeps x.toInCall.keep, N.funcN ?_⟩
  obtain ⟨hG, tkG, rfl⟩ := x.toInCall.same
  have G : Grows s.heap hG := x.toInCall.keep
  have hsize : s.heap.objs.size <= env.locals := x.toInCall.fresh
  have hnone : s.heap.get? env.locals = none := by
    induction e : s.heap.get? env.locals using Option.casesOn with
    | none => rfl
    | some o' => exact absurd (Heap.lt_size e) (Nat.not_lt.mpr hsize)
  have gn : g.get? env.locals = none := by
    induction e : g.get? env.locals using Option.casesOn with
    | none => rfl
    | some o => have := st _ _ e; rw [hnone] at this; exact nn this
  have e1 : env.scope = fd.scope /\ env.globals = mainGlobals /\ env.builtins = builtinsNs /\ env.cells = cellsFrom (s.heap.objs.size + 1) fd.scope.names [] := by
    subst he; exact ⟨rfl, F.gl, F.bi, rfl⟩
  refine h env hG tkG _ e1.1 ⟨⟨by rw [e1.1]; exact F.fn, e1.2.1, e1.2.2.1⟩, x.toInCall.ns, fun a o q => G a o (st a o q), gn⟩ G hsize (fun i x' v hi hv => ?_) e1.2.2.2
  have hk : env.kindOf x' = some .local := by
    show env.scope.names.lookup x' = _
    rw [e1.1]; exact hloc x' (List.mem_of_getElem? hi)
  exact (bind_at (k := env.kindOf) (m := fun _ => none) (cm := fun _ => none) nd hi hv).1 hk
theorem ev_call {fn : Expr} {x : Str} {args : List Expr} {pos : Pos} {P : Heap -> Prop} {Q : Value -> Shared -> Prop} (hf : isNm x fn = true) (hns : args.all aS = true)
    (h : wpN (model prog w) A (eval fn env) (fun fv sG => (∀ h, P h -> ∃ k, (k = Keeper.frame \/ k = Keeper.machine \/ k = Keeper.boundFrame) /\ Looks (model prog w) h (keeperOf fv) k) /\ wpN (model prog w) A (spliced (args.map fun e => (false, eval e env))) (fun vs sH => P sH.heap /\ wpN (model prog w) A (call fv vs) Q E sH) E sG) E s) :
    wpN (model prog w) A (eval (.Call fn args [] pos) env) Q E s := by
  obtain ⟨p, rfl⟩ := bP hf
  have hc : ∀ l : List Expr, l.all aS = true -> aZ (fun _ _ => true) l (l.map fun _ => IE.bad) = true := by
    intro l
    induction l with
    | nil => intro _; rfl
    | cons e es ih =>
      intro hl
      rw [List.all_cons, Bool.and_eq_true] at hl
      show (aS e && true && aZ _ es (es.map fun _ => IE.bad)) = true
      rw [hl.1, ih hl.2]; rfl
  refine fV (hc args hns) (aD h (fun fv sG hG => ?_) fun _ _ x => x)
  exact aX hG.1 hG.2
theorem pC {x : Str} {e : Expr} (h : isNm x e = true) : aS e = true := by obtain ⟨p, rfl⟩ := bP h; rfl
theorem eS {i : Int} {e : Expr} (h : isInt i e = true) : aS e = true := by obtain ⟨k, p, rfl⟩ := isInt_inv h; rfl
theorem notStar_ix {x : Str} {i : Int} {e : Expr} (h : isIx x i e = true) : aS e = true := by obtain ⟨p, k, p2, p3, rfl⟩ := isIx_inv h; rfl
end
end Fb
set_option genInjectivity false
set_option genCtorIdx false
set_option genSizeOf false
namespace Fb
noncomputable def isGe (o : CmpOp) : Bool := match o with
  | .GtE => true
  | _ => false
theorem isGe_eq {o : CmpOp} (h : isGe o = true) : o = .GtE := by cases o <;> first | rfl | exact ff h
noncomputable def fU : List Str := [Str.ofString "box", Str.ofString "many"]
noncomputable def isTake (body : List Stmt) : Bool := on4 body fun x1 x2 x3 x4 =>
  (onIf x1 fun t th el => el.isEmpty && (onCmp t fun a os rs => on1 os fun o => on1 rs fun r => isGe o && isIx (Str.ofString "box") 1 a && dA r fun f xs _ => on1 xs fun b => isNm (Str.ofString "len") f && isIx (Str.ofString "box") 0 b) && on1 th fun r => onRet r fun v => fQ v fun c => isInt 0 c) &&
  (gM x2 fun y v => isNm (Str.ofString "number") y && mS v fun d e => isIx (Str.ofString "box") 0 d && isIx (Str.ofString "box") 1 e) &&
  (gM x3 fun t v => isIx (Str.ofString "box") 1 t && onBin v fun u o z => isBop o .add && isIx (Str.ofString "box") 1 u && isInt 1 z) &&
  (onRet x4 fun v => fQ v fun e => onBin e fun u o z => isBop o .mod && isNm (Str.ofString "number") u && isNm (Str.ofString "many") z)
structure TakeF (K : Frag) : Prop where
  chk : chkB K 756 fU isTake = true
  loc : ∀ fd, fnOf K 756 = some fd -> (∀ x ∈ fU, fd.scope.names.lookup x = some .local) /\ fd.scope.names.lookup (Str.ofString "number") = some .local /\ fd.scope.names.lookup (Str.ofString "len") = some .globalImplicit
  bind : ∀ fd, fnOf K 756 = some fd -> ∀ a b, bindArgs fd ⟨[a, b], []⟩ = pure (fU.zip [a, b])
section
variable {prog : Program} {w : World} {g : Heap} {K : Frag} {A : Around} {E : Value -> Shared -> Prop} {s : Shared} {lev : Nat}
theorem take0 (T : Stat K g) (KF : KFacts K) (F : TakeF K) {bx bl : Addr} {ls : Array Value} {l : List Int} {many : Int} {t0 tm : Tok} {Q : Value -> Shared -> Prop} (hB : Bud (lev + 1) A) (st : g.StaysIn s.heap) (hbx : s.heap.IsList bx #[.ref bl, .int 0 t0]) (hbl : s.heap.IsList bl ls) (hi : IntsAre ls.toList l) (hl : l.length <= 1000) (hm : 0 < many) (hne : bx ≠ bl) (hog : g.get? bx = none)
    (h : ∀ h' tk r j t t', 0 <= r -> r < many -> 0 <= j -> h'.IsList bx #[.ref bl, .int j t'] -> (∀ a o, a ≠ bx -> s.heap.get? a = some o -> h'.get? a = some o) -> Q (.int r t) (Fb.sh s h' tk)) :
    wpN (model prog w) A (call (.ref 756) [.ref bx, .int many tm]) Q E s := by
  obtain ⟨fd, body, B, hs⟩ := iI F.chk
  obtain ⟨hloc, hnum, hlen⟩ := F.loc fd B.at_
  have hsz : ls.size = l.length := by have := bI hi; simpa using this
  refine cX (enter0 T B (by decide) hloc hB st rfl (BindsTo.of_eq (F.bind fd B.at_ _ _)) ?_)
  intro env hG tkG m he H G hsize hmD _
  have kb : env.kindOf (Str.ofString "box") = some .local := by show env.scope.names.lookup _ = _; rw [he]; exact hloc _ (by decide)
  have km : env.kindOf (Str.ofString "many") = some .local := by show env.scope.names.lookup _ = _; rw [he]; exact hloc _ (by decide)
  have kn : env.kindOf (Str.ofString "number") = some .local := by show env.scope.names.lookup _ = _; rw [he]; exact hnum
  have kl : env.kindOf (Str.ofString "len") = some .globalImplicit := by show env.scope.names.lookup _ = _; rw [he]; exact hlen
  have mb : m (Str.ofString "box") = some (.ref bx) := hmD 0 _ _ rfl rfl
  have mm : m (Str.ofString "many") = some (.int many tm) := hmD 1 _ _ rfl rfl
  refine on4_el hs fun x1 x2 x3 x4 hs_1 => ?_
  obtain ⟨hs_2, k4⟩ := an hs_1
  obtain ⟨hs_3, k3⟩ := an hs_2
  obtain ⟨k1, k2⟩ := an hs_3
  clear hs_3
  refine onIf_el k1 fun tt th el p3 k1_1 => ?_
  obtain ⟨qa, qd⟩ := an k1_1
  obtain ⟨qa_1, qb⟩ := an qa
  obtain rfl := List.isEmpty_iff.mp qa_1
  refine nB qb fun a os rs p1 qb_1 => ?_
  refine bW qb_1 fun o0 qb_2 => ?_
  refine bW qb_2 fun r0 qb_3 => ?_
  obtain ⟨qc, qb_4⟩ := an qb_3
  obtain ⟨qc_1, s1⟩ := an qc
  obtain rfl := isGe_eq qc_1
  refine bA qb_4 fun f xs p0 qb_5 => ?_
  refine bW qb_5 fun b qb_6 => ?_
  obtain ⟨s2, s3⟩ := an qb_6
  refine bW qd fun r1 qd_1 => ?_
  refine nV qd_1 fun v1 p2 qd_2 => ?_
  refine cN qd_2 fun c s4 => ?_
  refine bU k2 fun y0 v2 p6 k2_1 => ?_
  obtain ⟨s5, k2_2⟩ := an k2_1
  obtain ⟨p4, rfl⟩ := bP s5
  refine dN k2_2 fun d e p5 k2_3 => ?_
  obtain ⟨s6, s7⟩ := an k2_3
  refine bU k3 fun t v3 p8 k3_1 => ?_
  obtain ⟨s8, k3_2⟩ := an k3_1
  refine onBin_el k3_2 fun u o1 v p7 k3_3 => ?_
  obtain ⟨k3_4, s10⟩ := an k3_3
  obtain ⟨k3_5, s9⟩ := an k3_4
  obtain rfl := nW k3_5
  refine nV k4 fun v4 p10 k4_1 => ?_
  refine cN k4_1 fun v5 k4_2 => ?_
  refine onBin_el k4_2 fun ww o2 z p9 k4_3 => ?_
  obtain ⟨k4_4, s12⟩ := an k4_3
  obtain ⟨k4_5, s11⟩ := an k4_4
  obtain rfl := nW k4_5
  . have hbxG : hG.IsList bx #[.ref bl, .int 0 t0] := aU hbx fun o e => G _ o e
    have hblG : hG.IsList bl ls := aU hbl fun o e => G _ o e
    have two : (#[Value.ref bl, Value.int 0 t0] : Array Value).size <= 1000000 := Nat.le_of_ble_eq_true rfl
    have nbL : bx ≠ env.locals := by
      obtain ⟨o, eo, _⟩ := hbx
      exact Nat.ne_of_lt (Nat.lt_of_lt_of_le (Heap.lt_size eo) hsize)
    have nlL : bl ≠ env.locals := by
      obtain ⟨o, eo, _⟩ := hbl
      exact Nat.ne_of_lt (Nat.lt_of_lt_of_le (Heap.lt_size eo) hsize)
    refine N.eCons (N.eIf (N.tCompare1 (ev_ix s1 H kb mb (by decide) hbxG (by decide) (by decide) two rfl ?_) rfl))
    refine ev_call (P := fun _ => True) s2 (by show (aS b && true) = true; rw [notStar_ix s3]; rfl) ?_
    refine oK T KF s2 H (i := 0) rfl kl (by decide) ⟨dF "len", ?_⟩
    refine N.cons (ev_ix s3 (s := (Fb.sh s hG (tkG + 1))) H kb mb (by decide) hbxG (by decide) (by decide) two rfl ?_)
    refine N.nil ⟨trivial, ?_⟩
    refine aB (call_len_list hblG (by lia) ?_)
    refine aB (P.ge_int (aB (wpAny_truthy_bool ?_)))
    by_cases hc : decide ((0 : Int) >= (ls.size : Int)) = true
    . rw [if_pos hc]
      refine N.eCons (N.eRet (gN s4 ?_))
      exact h hG _ 0 0 _ t0 (by decide) hm (by decide) hbxG fun a o _ e => G a o e
    . rw [if_neg hc]
      have hpos : 0 < ls.size := by
        have : ¬ ((0 : Int) >= (ls.size : Int)) := fun q => hc (decide_eq_true q)
        (clear hl; lia)
      refine N.eNil ?_
      obtain ⟨tn, hn0⟩ := kY hi 0 (by (clear hl; (exact Nat.le_trans (by assumption) (by lia))))
      refine N.eCons (N.eName ?_ (dP rfl))
      refine N.Subscript (ev_ix s6 (s := (Fb.sh s hG _)) H kb mb (by decide) hbxG (by decide) (by decide) two rfl ?_)
      refine ev_ix s7 (s := (Fb.sh s hG _)) H kb mb (by decide) hbxG (by decide) (by decide) two rfl ?_
      refine aB (ix_list (s := (Fb.sh s hG _)) ?_ hblG (by decide) (by decide) (by (rw [hsz]; lia)) (by simpa using hn0) ?_)
      . obtain ⟨_, _, _, _, rfl⟩ := isIx_inv s7; rfl
      refine aB (st_nm (s := (Fb.sh s hG _)) H kn fun hH tkH HH kJ => ?_)
      have hbxH : hH.IsList bx #[.ref bl, .int 0 t0] := aU hbxG fun o e => kJ _ o nbL e
      have mbG : (fun z => if z = Str.ofString "number" then some (Value.int (l.getD 0 0) tn) else m z) (Str.ofString "box") = some (.ref bx) := by
        show (if Str.ofString "box" = Str.ofString "number" then _ else m _) = _
        rw [if_neg (by decide), mb]
      obtain ⟨q1, q2, q3, q4, rfl⟩ := isIx_inv s8
      refine N.eCons (N.eSub ?_ (dP rfl))
      refine N.BinOp (ev_ix s9 (s := (Fb.sh s hH _)) HH kb mbG (by decide) hbxH (by decide) (by decide) two rfl ?_)
      refine gN s10 ?_
      refine aB (P.add_int ?_)
      refine ev_nm (e := .Name (Str.ofString "box") q1) (x := Str.ofString "box") (by show (Str.ofString "box" == Str.ofString "box") = true; decide) (s := (Fb.sh s hH _)) HH kb mbG (by decide) ?_
      refine gN (i := 1) rfl ?_
      refine aB (wpAny_setItem_list hbxH (by decide) (by decide) (by show (1 : Int) < 2; decide) fun hJ eW hsG => ?_)
      have kG : ∀ a o, a ≠ bx -> hH.get? a = some o -> hJ.get? a = some o := fun a o ha e => (hsG.2 a ha).trans e
      have HJ : Env0 g env hJ (fun z => if z = Str.ofString "number" then some (Value.int (l.getD 0 0) tn) else m z) :=
        ⟨HH.ok, HH.ns.at' fun o e => kG _ o (fun q => nbL q.symm) e, fun a o e => kG a o (fun q => by subst q; rw [hog] at e; exact nn e) (HH.st a o e), HH.off⟩
      refine N.eCons (N.eRet ?_)
      refine N.BinOp (ev_nm s11 (s := (Fb.sh s hJ _)) HJ kn (by show (if Str.ofString "number" = Str.ofString "number" then _ else m _) = _; rw [if_pos rfl]) (by decide) ?_)
      refine ev_nm s12 (s := (Fb.sh s hJ _)) HJ km (by show (if Str.ofString "many" = Str.ofString "number" then _ else m _) = _; rw [if_neg (by decide), mm]) (by decide) ?_
      refine aB (mod_int' (by exact Int.ne_of_gt (by assumption)) ?_)
      rw [Int.fmod_eq_emod_of_nonneg _ (by exact Int.le_of_lt (by assumption))]
      refine h hJ _ _ (0 + 1) _ _ (Int.emod_nonneg _ (by exact Int.ne_of_gt (by assumption))) (Int.emod_lt_of_pos _ hm) (by decide) eW fun a o ha e => kG a o ha (kJ a o ?_ (G a o e))
      exact Nat.ne_of_lt (Nat.lt_of_lt_of_le (Heap.lt_size e) hsize)
end
end Fb
namespace Fb
theorem Bud.made {A : Around} {lev : Nat} {C : Addr} {rest : List Value} (h : Bud (lev + 1) A) : Bud lev (A.under (.builtin "type.__call__" ⟨.ref C :: rest, []⟩)) := by
  have a := h.hd; have b := h.dp; have c := h.un; have d := h.gd
  refine ⟨a, ?_, ?_, ?_⟩
  . show A.depth + 1 + 10 * lev <= 900; lia
  . show A.units + 1 + 100 * lev <= 9000; lia
  . have : (Code.builtin "type.__call__" ⟨.ref C :: rest, []⟩).guards = [] := by
      show (if guardIds.contains "type.__call__" = true then _ else _) = _
      rw [if_neg (by decide +kernel)]
    show pushGuards (Code.builtin "type.__call__" ⟨.ref C :: rest, []⟩).guards A.guards = _
    rw [this, d]; rfl
section
variable {prog : Program} {w : World} {A : Around} {K : Frag} {C : Addr} {R : Result -> Shared -> Prop} {h : Heap} {g : Array GenState} {d : Drawn} {t : Nat} {os : OsState}
theorem make_coreN {rest : List Value} {fI : Addr} (Y : Makes (model prog w) h C) (hi : Looks (model prog w) h (typeLookup (.ref C) "__init__") (some (.ref fI)))
    (hb : ∀ self, Looks (model prog w) h (bindSpecial (.ref fI) self) (.ref fI, [self]))
    (hq : wpN (model prog w) (A.under (.builtin "type.__call__" ⟨.ref C :: rest, []⟩)) (call (.ref fI) (.ref (h.objs.size + 1) :: rest)) (fun v s' => v = .none /\ R (.ok (.ret (.ref (h.objs.size + 1)))) s') (fun e s' => R (.error e) s') ⟨(h.push emptyDict).push (instObj C h.objs.size), g, d, t, os⟩) :
    bQ (model prog w) A (.call (.ref C) ⟨rest, []⟩) R ⟨h, g, d, t, os⟩ := by
  have Y' := Y
  refine bcn fun nG => ?_; obtain ⟨⟨oc, od, cd, sl, hC, e1, e2, e4⟩, made, base, self, top, call, typ⟩ := Y
  refine nG ?_; refine bB rfl ?_
  show wpN _ A.in1 (callAny (.ref C) ⟨rest, []⟩) _ _ _
  simp only [callAny]
  refine aM (wpAny_load hC ?_)
  unfold callAny.viaDunder
  refine aM (call.at ?_)
  dsimp only
  rw [tc_bind]
  refine aA (aC (aA (aC ?_)))
  refine aC (a := Fin.again (.call (.builtin "type.__call__") ⟨.ref C :: rest, []⟩)) (And.intro rfl ?_)
  refine bB rfl ?_
  refine aM (check_slot tc_kind tc_split typ (tc_args _ _ _) (aC ⟨Code.quiet_builtin _ (by decide +kernel), N.builtinN (N.okB (by decide +kernel)) entry_typeCall ?_⟩))
  unfold Builtin.«type.__call__»
  dsimp only
  refine aT (show ¬ ((Value.ref C == Value.type "type") = true) from Bool.false_ne_true) ?_
  have hm : Looks (model prog w) h (mroOf (.ref C)) cd.mro := ((Looks.ld (part := none) hC).andThen .now).andThen .now
  have k : ∀ b o, h.get? b = some o -> ((h.push emptyDict).push (instObj C h.objs.size)).get? b = some o := fun b o e => Heap.get?_push_of_some _ (Heap.get?_push_of_some _ e)
  have hx : ((h.push emptyDict).push (instObj C h.objs.size)).get? (h.objs.size + 1) = some (instObj C h.objs.size) := by heap_get
  have t1 : Looks (model prog w) ((h.push emptyDict).push (instObj C h.objs.size)) (typeOf (.ref (h.objs.size + 1))) (.ref C) := (Looks.ld hx).andThen .now
  have s1 := self.keeps k
  have i1 := hi.keeps k
  have b1 := (hb (.ref (h.objs.size + 1))).keeps k
  refine aM (hm.at ?_)
  refine aT (by rw [e4]; exact Bool.false_ne_true) ?_
  refine aM (made.at ?_)
  dsimp only
  refine aA (aC ?_)
  refine aA (aI (aB (wpAny_call (new_K Y' hi (.inl rfl) ?_))))
  unfold isInstance
  refine aA (aM (t1.at (aB (s1.at ?_))))
  refine aT (by decide) ?_
  refine aA (aI ?_)
  simp only [callSpecial?, specialOf]
  refine aA (aM (t1.at (aB (i1.at ?_))))
  dsimp only
  refine aI ?_
  refine aM (b1.at ?_)
  refine aA (aD hq (fun v s' hv => ?_) fun _ _ x => x)
  obtain rfl := hv.1; have hR := hv.2; clear hv
  refine aC ?_
  dsimp only
  refine aT (by decide) ?_
  exact aC hR
end
end Fb
set_option genInjectivity false
set_option genCtorIdx false
set_option genSizeOf false
namespace Fb
noncomputable def isNone (e : Expr) : Bool := jS e fun c => match c with
  | .none => true
  | _ => false
theorem isNone_inv {e : Expr} (h : isNone e = true) : ∃ k p, e = .Constant .none k p := by
  refine eI h fun c k p h => ?_
  cases c <;> first | exact ff h | exact ⟨_, _, rfl⟩
noncomputable def isFalse (e : Expr) : Bool := jS e fun c => isB c false
noncomputable def isCallNm (f x : Str) (e : Expr) : Bool := dA e fun g xs _ => on1 xs fun y => isNm f g && isNm x y
noncomputable def isPyt (c x : Str) (e : Expr) : Bool := dA e fun g xs p => on1 xs fun y => dX g fun o a ap => isNm c o && a == CA.name .py_type && ap.endLine == p.line && isNm x y
noncomputable def isLe (o : CmpOp) : Bool := match o with
  | .LtE => true
  | _ => false
theorem isLe_eq {o : CmpOp} (h : isLe o = true) : o = .LtE := by cases o <;> first | rfl | exact ff h
noncomputable def isGuard0 (st : Stmt) : Bool := onIf st fun t _ el => el.isEmpty && onUn t fun u c => onCmp c fun z os rs => on2 os fun oG oH => on2 rs fun x at_ => dX at_ fun o a _ => isUop u .not && isLe oG && isLe oH && isInt 0 z && isNm (Str.ofString "initialSize") x && isNm (Str.ofString "Builder") o && a == CA.name .maxbuf
noncomputable def nQ (k : Sl) (v : Expr -> Bool) (st : Stmt) : Bool := gM st fun t e => dX t fun o a _ => isNm (Str.ofString "self") o && a == k.name && bV e && v e
noncomputable def isInit (body : List Stmt) : Bool := mB body fun a r => isGuard0 a && on4 (r.take 4) fun b c d e => nQ .bytes (isCallNm (Str.ofString "bytearray") (Str.ofString "initialSize")) b && nQ .cv isNone c && nQ .head (isPyt (Str.ofString "UOffsetTFlags") (Str.ofString "initialSize")) d && nQ .minalign (isInt 1) e &&
  on4 ((r.drop 4).take 4) fun f g h i => nQ .oend isNone f && nQ .vtables onDict0 g && nQ .nested isFalse h && nQ .force isFalse i && on2 (r.drop 8) fun j k => nQ .shared isNone j && nQ .fin isFalse k
noncomputable def dS : List Str := [Str.ofString "self", Str.ofString "initialSize"]
noncomputable def put (sl : Array (Option Value)) (i : Nat) (v : Value) : Array (Option Value) := (sl ++ Array.replicate (i + 1 - sl.size) none).setIfInBounds i (some v)
structure InitF (K : Frag) : Prop where
  chk : chkB K 343 dS isInit = true
  loc : ∀ fd, fnOf K 343 = some fd -> (∀ x ∈ dS, fd.scope.names.lookup x = some .local) /\ fd.scope.names.lookup (Str.ofString "Builder") = some .globalImplicit /\ fd.scope.names.lookup (Str.ofString "bytearray") = some .globalImplicit /\ fd.scope.names.lookup (Str.ofString "UOffsetTFlags") = some .globalImplicit
  bind : ∀ fd, fnOf K 343 = some fd -> ∀ (s : Shared) a b, K.In s.heap -> BindsTo s fd ⟨[a, b], []⟩ (dS.zip [a, b])
structure Ini (g : Heap) (env : Env) (m : Str -> Option Value) (b dx : Addr) (sl : Array (Option Value)) (W : Addr -> Obj -> Prop) (h : Heap) : Prop where
  H : Env0 g env h m
  ob : h.get? b = some ⟨.ref 729, some dx, .plain, sl⟩
  dd : h.get? dx = some (dictOf [] 0)
  nb : dx ≠ b /\ dx ≠ env.locals /\ b ≠ env.locals
  gb : g.get? b = none
  w : ∀ a o, W a o -> h.get? a = some o /\ a ≠ b /\ a ≠ env.locals
theorem Ini.grow {g h h' : Heap} {env : Env} {m : Str -> Option Value} {b dx : Addr} {sl : Array (Option Value)} {W : Addr -> Obj -> Prop} (I : Ini g env m b dx sl W h) (G : Grows h h') : Ini g env m b dx sl W h' :=
  ⟨I.H.grow G, G _ _ I.ob, G _ _ I.dd, I.nb, I.gb, fun a o q => ⟨G _ _ (I.w a o q).1, (I.w a o q).2⟩⟩
theorem Ini.add {g h : Heap} {env : Env} {m : Str -> Option Value} {b dx c : Addr} {sl : Array (Option Value)} {W : Addr -> Obj -> Prop} {oc : Obj} (I : Ini g env m b dx sl W h) (e : h.get? c = some oc) (h1 : c ≠ b) (h2 : c ≠ env.locals) : Ini g env m b dx sl (fun a o => W a o \/ (a = c /\ o = oc)) h :=
  ⟨I.H, I.ob, I.dd, I.nb, I.gb, fun a o q => by
    rcases q with q | ⟨rfl, rfl⟩
    . exact I.w a o q
    . exact ⟨e, h1, h2⟩⟩
section
variable {prog : Program} {w : World} {g : Heap} {K : Frag} {A : Around} {E : Value -> Shared -> Prop} {s : Shared} {env : Env} {m : Str -> Option Value}
theorem raw_put_slot (KF : KFacts K) (X : K.In s.heap) {k : Sl} {b dx L : Addr} {sl : Array (Option Value)} {m : Str -> Option Value} {v : Value} {Q : Unit -> Shared -> Prop} (e1 : s.heap.get? b = some ⟨.ref 729, some dx, .plain, sl⟩)
    (edx : s.heap.get? dx = some (dictOf [] 0)) (hn : s.heap.Ns L m) (hL : L ≠ b)
    (h : ∀ h', h'.Ns L m -> h'.get? b = some ⟨.ref 729, some dx, .plain, put sl k.idx v⟩ -> (∀ a o, a ≠ L -> a ≠ b -> s.heap.get? a = some o -> h'.get? a = some o) -> Q () (Fb.sh s h' (s.toks + 1))) :
    wpAny (model prog w) A (setAttr (.ref b) k.name v) Q E s := by
  have zq0 := KF.slots k; have a1 := zq0.1; have a2 := zq0.2.1; have a3 := zq0.2.2.1; have a4 := zq0.2.2.2.1; have a5 := zq0.2.2.2.2.1; have a6 := zq0.2.2.2.2.2.1; have a7 := zq0.2.2.2.2.2.2.1; have a8 := zq0.2.2.2.2.2.2.2; clear zq0
  have I : InstAt s.heap b _ 729 (some (dictOf [] 0)) := ⟨e1, rfl, rfl, edx⟩
  have hk : k.idx < 11 := by induction k using Sl.casesOn <;> decide
  refine set_plain X I KF.setat.1 (osa_descr (s := { s with toks := s.toks + 1 }) PySem.W.KF.slot_mset X I KF.setat.2 a7 a8
    (slot_set (s := { s with toks := s.toks + 1 }) (h₀ := noHeap) (L := L) (m := m) (pre := allBut s.heap L b) (post := []) (ox' := ⟨.ref 729, some dx, .plain, put sl k.idx v⟩) (frAll hn) ?_ X I a6 (by exact Nat.le_trans (by assumption) (Nat.le_add_left _ _)) ?_ (fun _ hp => nomatch hp) rfl rfl fun h' F' N' => ?_))
  . intro p hp
    rcases List.mem_append.mp hp with hp | hp
    . have zq0 := fW.mp hp; have q1 := zq0.1.1; have q2 := zq0.1.2; have q3 := zq0.2; clear zq0; exact ⟨q3, q1, jE _⟩
    . cases hp with
      | head => exact ⟨e1, fun q => hL q.symm, jE _⟩
      | tail _ hp => exact nomatch hp
  . intro p hp; exact (fW.mp hp).1.2
  . exact h h' F'.ns (N' (b, _) (List.mem_append_right _ (.head _))).1 fun a o q1 q2 e => (N' (a, o) (List.mem_append_left _ (fW.mpr ⟨⟨q1, q2⟩, e⟩))).1
theorem iset (T : Stat K g) (KF : KFacts K) {k : Sl} {pv : Expr -> Bool} {st : Stmt} {rest : List Stmt} {b dx : Addr} {sl : Array (Option Value)} {Q : Flow -> Shared -> Prop} (hs : nQ k pv st = true) (ks : env.kindOf (Str.ofString "self") = some .local) (ms : m (Str.ofString "self") = some (.ref b))
    (hv : ∀ e, pv e = true -> wpN (model prog w) A (eval e env) (fun v sG => ∃ W, Ini g env m b dx sl W sG.heap /\ ∀ h' tk, Ini g env m b dx (put sl k.idx v) W h' -> wpN (model prog w) A (execs rest env) Q E (Fb.sh sG h' tk)) E s) :
    wpN (model prog w) A (execs (st :: rest) env) Q E s := by
  refine bU hs fun t e p2 hs1 => ?_
  refine bK hs1 fun o a p1 hs2 => ?_
  obtain ⟨h, h4⟩ := an hs2
  obtain ⟨h, h3⟩ := an h
  obtain ⟨h1, h2⟩ := an h
  . rw [eq_of_beq h2]
    refine N.eCons (N.eAttr (aD (hv e h4) (fun v sG hq => ?_) fun _ _ q => q) (dP h3))
    refine bcn fun nG => ?_; obtain ⟨W, I, hq⟩ := hq
    refine nG ?_; refine ev_nm h1 I.H ks ms (by decide) ?_
    refine aB (raw_put_slot KF (T.X.keeps I.H.st) I.ob I.dd I.H.ns I.nb.2.2.symm fun h' hn' e' keep => ?_)
    refine hq h' _ ⟨⟨I.H.ok, hn', fun a o q => keep a o (fun r => ?_) (fun r => ?_) (I.H.st a o q), I.H.off⟩, e', keep _ _ I.nb.2.1 I.nb.1 I.dd, I.nb, I.gb, fun a o q => ?_⟩
    . subst r; rw [I.H.off] at q; exact nn q
    . subst r; rw [I.gb] at q; exact nn q
    . obtain ⟨q1, q2, q3⟩ := I.w a o q
      exact ⟨keep a o q3 q2 q1, q2, q3⟩
theorem ev_none {e : Expr} {Q : Value -> Shared -> Prop} (he : isNone e = true) (h : Q .none s) : wpN (model prog w) A (eval e env) Q E s := by
  obtain ⟨k, p, rfl⟩ := isNone_inv he
  exact aB (Constant_none h)
theorem ev_false {e : Expr} {Q : Value -> Shared -> Prop} (he : isFalse e = true) (h : Q (.bool false) s) : wpN (model prog w) A (eval e env) Q E s := by
  refine eI he fun c k p he => ?_
  rw [isB_eq he]
  exact aB (Constant_bool h)
theorem ev_dict {e : Expr} {Q : Value -> Shared -> Prop} (he : onDict0 e = true) (h : Q (.ref s.heap.objs.size) { s with heap := s.heap.push (dictOf [] 0) }) : wpN (model prog w) A (eval e env) Q E s := by
  obtain ⟨p, rfl⟩ := onDict0_inv he
  rw [eval_Dict_empty]
  exact aA (aK (aB (wpAny_newObj_type h)))
theorem ev_callNm {f x : Str} {e : Expr} {fv v : Value} {Q : Value -> Shared -> Prop} (he : isCallNm f x e = true) (hf : ∀ e', isNm f e' = true -> ∀ {Q' : Value -> Shared -> Prop}, Q' fv s -> wpN (model prog w) A (eval e' env) Q' E s) (hk : ∀ h, True -> ∃ k, (k = Keeper.frame \/ k = Keeper.machine \/ k = Keeper.boundFrame) /\ Looks (model prog w) h (keeperOf fv) k)
    (H : Env0 g env s.heap m) (k : env.kindOf x = some .local) (hm : m x = some v) (hd : (x == ("__debug__" : Str)) = false) (h : wpN (model prog w) A (call fv [v]) Q E s) : wpN (model prog w) A (eval e env) Q E s := by
  refine bA he fun gx xs p he1 => ?_
  refine bW he1 fun y he2 => ?_
  have he := an he2
  refine ev_call (P := fun _ => True) he.1 (by show (aS y && true) = true; rw [pC he.2]; rfl) (hf _ he.1 ⟨hk, ?_⟩)
  exact N.cons (ev_nm he.2 H k hm hd (N.nil ⟨trivial, h⟩))
end
theorem put_all {v0 v1 v2 v3 v4 v5 v6 v7 v8 v10 : Value} :
    put (put (put (put (put (put (put (put (put (put #[] 0 v0) 1 v1) 4 v4) 5 v5) 7 v7) 10 v10) 6 v6) 3 v3) 8 v8) 2 v2 = #[some v0, some v1, some v2, some v3, some v4, some v5, some v6, some v7, some v8, none, some v10] := by
  have a0 : put #[] 0 v0 = #[some v0] := by unfold put; simp
  have a1 : put #[some v0] 1 v1 = #[some v0, some v1] := by unfold put; simp
  have a2 : put #[some v0, some v1] 4 v4 = #[some v0, some v1, none, none, some v4] := by unfold put; simp
  have a3 : put #[some v0, some v1, none, none, some v4] 5 v5 = #[some v0, some v1, none, none, some v4, some v5] := by unfold put; simp
  have a4 : put #[some v0, some v1, none, none, some v4, some v5] 7 v7 = #[some v0, some v1, none, none, some v4, some v5, none, some v7] := by unfold put; simp
  have a5 : put #[some v0, some v1, none, none, some v4, some v5, none, some v7] 10 v10 = #[some v0, some v1, none, none, some v4, some v5, none, some v7, none, none, some v10] := by unfold put; simp
  have a6 : put #[some v0, some v1, none, none, some v4, some v5, none, some v7, none, none, some v10] 6 v6 = #[some v0, some v1, none, none, some v4, some v5, some v6, some v7, none, none, some v10] := by unfold put; simp
  have a7 : put #[some v0, some v1, none, none, some v4, some v5, some v6, some v7, none, none, some v10] 3 v3 = #[some v0, some v1, none, some v3, some v4, some v5, some v6, some v7, none, none, some v10] := by unfold put; simp
  have a8 : put #[some v0, some v1, none, some v3, some v4, some v5, some v6, some v7, none, none, some v10] 8 v8 = #[some v0, some v1, none, some v3, some v4, some v5, some v6, some v7, some v8, none, some v10] := by unfold put; simp
  have a9 : put #[some v0, some v1, none, some v3, some v4, some v5, some v6, some v7, some v8, none, some v10] 2 v2 = #[some v0, some v1, some v2, some v3, some v4, some v5, some v6, some v7, some v8, none, some v10] := by unfold put; simp
  rw [a0, a1, a2, a3, a4, a5, a6, a7, a8, a9]
end Fb
namespace Fb
section
variable {prog : Program} {w : World} {g : Heap} {K : Frag} {A : Around} {E : Value -> Shared -> Prop} {s : Shared} {env : Env} {m : Str -> Option Value} {lev : Nat}
theorem guard0 (T : Stat K g) (KF : KFacts K) {st : Stmt} {rest : List Stmt} {n : Int} {t : Tok} {Q : Flow -> Shared -> Prop} (hs : isGuard0 st = true) (H : Env0 g env s.heap m) (ki : env.kindOf (Str.ofString "initialSize") = some .local) (kb : env.kindOf (Str.ofString "Builder") = some .globalImplicit) (mi : m (Str.ofString "initialSize") = some (.int n t)) (h0 : 0 <= n) (h1 : n <= 1000)
    (h : ∀ tk, wpN (model prog w) A (execs rest env) Q E { s with toks := tk }) : wpN (model prog w) A (execs (st :: rest) env) Q E s := by
  refine onIf_el hs fun t bd el p4 w1 => ?_
  refine bcn fun nG => ?_; obtain ⟨w0, w2⟩ := an w1
  refine nG ?_; obtain rfl := List.isEmpty_iff.mp w0
  refine onUn_el w2 fun u c p3 w3 => ?_
  refine nB w3 fun z os rs p2 w4 => ?_
  refine fE w4 fun oG oH w5 => ?_
  refine fE w5 fun x at_ w6 => ?_
  refine bK w6 fun o a p1 w7 => ?_
  refine bcn fun nG => ?_; obtain ⟨w8, s4⟩ := an w7
  obtain ⟨w9, s3⟩ := an w8
  obtain ⟨wA, s2⟩ := an w9
  obtain ⟨wB, s1⟩ := an wA
  obtain ⟨wC, wD⟩ := an wB
  obtain ⟨wE, wF⟩ := an wC
  refine nG ?_; obtain rfl := isUop_eq wE
  obtain rfl := isLe_eq wF
  obtain rfl := isLe_eq wD
  . rw [eq_of_beq s4]
    refine N.eCons (N.eIf (N.tNot (N.tChain (gN s1 ?_) rfl)))
    refine N.tLink (ev_nm (s := { s with toks := _ }) s2 H ki mi (by decide) ?_)
    refine aB (P.le_int (aB (wpAny_truthy_bool ?_)))
    rw [if_pos (decide_eq_true h0)]
    obtain ⟨p, rfl⟩ := bP s3
    refine N.tLast (attr_eval rfl (oK (s := { s with toks := _ }) T KF s3 H (i := 30) rfl kb (by decide) ?_))
    refine bcn fun nG => ?_; obtain ⟨a1, u, a2, a3, a4⟩ := KF.cattr 729 .maxbuf (fun q => nomatch q) (fun q => nomatch q)
    refine nG ?_; refine aB (cls_value (T.X.keeps H.st) a1 a2 a3 ?_)
    obtain ⟨t', rfl⟩ : ∃ t', u = .int 2147483648 t' := a4
    refine aB (P.le_int (aB (wpAny_truthy_bool ?_)))
    rw [show (!decide (n <= 2147483648)) = false from by rw [decide_eq_true (show n <= 2147483648 by (exact Int.le_trans (by assumption) (by decide)))]; rfl, if_neg Bool.false_ne_true]
    exact N.eNil (h _)
theorem ev_pyt (T : Stat K g) (KF : KFacts K) {e : Expr} {n : Int} {t : Tok} {Q : Value -> Shared -> Prop} (he : isPyt (Str.ofString "UOffsetTFlags") (Str.ofString "initialSize") e = true) (H : Env0 g env s.heap m) (ki : env.kindOf (Str.ofString "initialSize") = some .local) (kb : env.kindOf (Str.ofString "UOffsetTFlags") = some .globalImplicit) (mi : m (Str.ofString "initialSize") = some (.int n t))
    (h : ∀ tk t', Q (.int n t') { s with toks := tk }) : wpN (model prog w) A (eval e env) Q E s := by
  refine bA he fun gx xs p w1 => ?_
  refine bW w1 fun y w2 => ?_
  refine bK w2 fun o a ap w3 => ?_
  obtain ⟨w4, s4⟩ := an w3
  obtain ⟨w5, s3⟩ := an w4
  obtain ⟨s1, s2⟩ := an w5
  . rw [eq_of_beq s2]
    obtain ⟨p5, rfl⟩ := bP s1
    have hc : aZ (fun _ _ => true) [y] [IE.bad] = true := by show (aS y && true && true) = true; rw [pC s4]; rfl
    refine cA rfl s3 hc (by show (1 : Nat) < 30; decide) (oK T KF s1 H (i := 26) rfl kb (by decide) ?_)
    refine bcn fun nG => ?_; obtain ⟨a1, a2, a3⟩ := KF.pyty 208 (fun q => nomatch q)
    refine nG ?_; refine aB (method_cls (T.X.keeps H.st) (KF.cmeth 208 (fun q => nomatch q)) (cls_int (T.X.keeps H.st) a1 a2 a3 ?_))
    refine aX (P := fun _ => True) (cP "int") (N.cons (ev_nm (s := { s with toks := _ }) s4 H ki mi (by decide) ?_))
    exact N.nil ⟨trivial, aB (call_int_int (h _ _))⟩
theorem on2_inv {α : Type} {l : List α} {f} (h : on2 l f = true) : ∃ a b, l = [a, b] /\ f a b = true := fE (P := fun l => ∃ a b, l = [a, b] /\ f a b = true) h fun a b h => ⟨a, b, rfl, h⟩
theorem on4_inv {α : Type} {l : List α} {f} (h : on4 l f = true) : ∃ a b c d, l = [a, b, c, d] /\ f a b c d = true := on4_el (P := fun l => ∃ a b c d, l = [a, b, c, d] /\ f a b c d = true) h fun a b c d h => ⟨a, b, c, d, rfl, h⟩
theorem init0 (T : Stat K g) (KF : KFacts K) (F : InitF K) {b dx : Addr} {n : Int} {t : Tok} {Q : Value -> Shared -> Prop} (hB : Bud (lev + 1) A) (st : g.StaysIn s.heap) (eb : s.heap.get? b = some ⟨.ref 729, some dx, .plain, #[]⟩) (ed : s.heap.get? dx = some (dictOf [] 0)) (hbd : dx ≠ b) (gb : g.get? b = none) (h0 : 0 <= n) (h1 : n <= 1000)
    (h : ∀ h' tk ba vd t1 t2, s.heap.objs.size <= ba -> s.heap.objs.size <= vd -> ba ≠ vd -> h'.get? b = some ⟨.ref 729, some dx, .plain, #[some (.ref ba), some .none, some (.bool false), some (.bool false), some (.int n t1), some (.int 1 t2), some (.bool false), some .none, some .none, none, some (.ref vd)]⟩ ->
      h'.get? ba = some (bob (List.replicate n.toNat 0)) -> h'.get? vd = some (dictOf [] 0) -> (∀ a o, a ≠ b -> s.heap.get? a = some o -> h'.get? a = some o) -> Q .none (Fb.sh s h' tk)) :
    wpN (model prog w) A (call (.ref 343) [.ref b, .int n t]) Q E s := by
  refine bcn fun nG => ?_; obtain ⟨fd, body, B, hs⟩ := iI F.chk
  obtain ⟨hloc, hBu, hby, hUO⟩ := F.loc fd B.at_
  refine nG ?_; refine cX (enter0 T B (by decide) hloc hB st rfl (F.bind fd B.at_ _ _ _ (T.X.keeps st)) ?_)
  intro env hG tkG m he H G hsize hmD _
  have ks : env.kindOf (Str.ofString "self") = some .local := by show env.scope.names.lookup _ = _; rw [he]; exact hloc _ (by decide)
  have ki : env.kindOf (Str.ofString "initialSize") = some .local := by show env.scope.names.lookup _ = _; rw [he]; exact hloc _ (by decide)
  have kB : env.kindOf (Str.ofString "Builder") = some .globalImplicit := by show env.scope.names.lookup _ = _; rw [he]; exact hBu
  have ky : env.kindOf (Str.ofString "bytearray") = some .globalImplicit := by show env.scope.names.lookup _ = _; rw [he]; exact hby
  have kU : env.kindOf (Str.ofString "UOffsetTFlags") = some .globalImplicit := by show env.scope.names.lookup _ = _; rw [he]; exact hUO
  have ms : m (Str.ofString "self") = some (.ref b) := hmD 0 _ _ rfl rfl
  have mi : m (Str.ofString "initialSize") = some (.int n t) := hmD 1 _ _ rfl rfl
  have ltL : ∀ a o, s.heap.get? a = some o -> a ≠ env.locals := fun a o e => Nat.ne_of_lt (Nat.lt_of_lt_of_le (Heap.lt_size e) hsize)
  have IJ : Ini g env m b dx #[] (fun a o => a ≠ b /\ s.heap.get? a = some o) hG := ⟨H, G _ _ eb, G _ _ ed, ⟨hbd, ltL _ _ ed, ltL _ _ eb⟩, gb, fun a o q => ⟨G _ _ q.2, q.1, ltL _ _ q.2⟩⟩
  have szG : s.heap.objs.size <= hG.objs.size := by
    rcases Nat.lt_or_ge hG.objs.size s.heap.objs.size with q | q
    . exfalso
      obtain ⟨o, _, _, eo, _⟩ := H.ns
      exact absurd (Nat.lt_of_lt_of_le (Heap.lt_size eo) (Nat.le_of_lt q)) (Nat.not_lt.mpr hsize)
    . exact q
  refine eN hs fun a0 r0 w1 => ?_
  refine bcn fun nG => ?_; obtain ⟨s0, w2⟩ := an w1
  obtain ⟨b0, c0, d0, e0, w3, w4⟩ := on4_inv w2
  obtain ⟨w5, w6⟩ := an w4
  obtain ⟨w7, s4⟩ := an w5
  obtain ⟨w8, s3⟩ := an w7
  obtain ⟨s1, s2⟩ := an w8
  obtain ⟨f0, g0, h0', i0, w9, wA⟩ := on4_inv w6
  obtain ⟨wB, wC⟩ := an wA
  obtain ⟨wD, s8⟩ := an wB
  obtain ⟨wE, s7⟩ := an wD
  obtain ⟨s5, s6⟩ := an wE
  obtain ⟨j0, k0, wF, wG⟩ := on2_inv wC
  obtain ⟨s9, s10⟩ := an wG
  refine nG ?_; obtain rfl : r0 = [b0, c0, d0, e0, f0, g0, h0', i0, j0, k0] := by
    have q1 := (List.take_append_drop 4 r0).symm
    have q2 := (List.take_append_drop 4 (r0.drop 4)).symm
    rw [List.drop_drop, w9, show 4 + 4 = 8 from rfl, wF] at q2
    rw [w3, q2] at q1
    exact q1
  . refine guard0 T KF (s := (Fb.sh s hG tkG)) s0 H ki kB mi h0 h1 fun tk => ?_
    refine iset (dx := dx) (sl := #[]) T KF s1 ks ms fun e he => ev_callNm (s := (Fb.sh s hG tk)) he (fun e' q {_} hq => oK T KF q H (i := 11) rfl ky (by decide) hq) (cP "bytearray") H ki mi (by decide) ?_
    refine N.ctorInt hB.gd h0 (by exact Int.le_trans (by assumption) (by decide)) fun hH eG GG => ?_
    have nba : hG.objs.size ≠ b := fun q => absurd (q ▸ Heap.lt_size (G _ _ eb)) (Nat.lt_irrefl _)
    have nbL : hG.objs.size ≠ env.locals := fun q => by
      obtain ⟨o, _, _, eo, _⟩ := H.ns
      exact absurd (q ▸ Heap.lt_size eo) (Nat.lt_irrefl _)
    refine ⟨_, (IJ.grow GG).add eG nba nbL, fun hJ tkJ IW => ?_⟩
    refine iset T KF s2 ks ms fun e he => ev_none he ⟨_, IW, fun hW tkW IH => ?_⟩
    refine iset T KF s3 ks ms fun e he => ev_pyt T KF he IH.H ki kU mi fun tk4 t4 => ⟨_, IH, fun hZ tkZ IZ => ?_⟩
    refine iset T KF s4 ks ms fun e he => gN he ⟨_, IZ, fun h₆ tkU IU => ?_⟩
    refine iset T KF s5 ks ms fun e he => ev_none he ⟨_, IU, fun hU tkF IG => ?_⟩
    have nvb : hU.objs.size ≠ b := fun q => absurd (q ▸ Heap.lt_size IG.ob) (Nat.lt_irrefl _)
    have nvL : hU.objs.size ≠ env.locals := fun q => by
      obtain ⟨o, _, _, eo, _⟩ := IG.H.ns
      exact absurd (q ▸ Heap.lt_size eo) (Nat.lt_irrefl _)
    have szv : hG.objs.size < hU.objs.size := Heap.lt_size (IG.w _ _ (.inr ⟨rfl, rfl⟩)).1
    refine iset T KF s6 ks ms fun e he => ev_dict he ⟨_, (IG.grow (Grows.push _ _)).add (Heap.get?_push_size _ rfl) nvb nvL, fun h₈ tk₈ ID => ?_⟩
    refine iset T KF s7 ks ms fun e he => ev_false he ⟨_, ID, fun h₉ tk₉ IF => ?_⟩
    refine iset T KF s8 ks ms fun e he => ev_false he ⟨_, IF, fun hA tkA IA => ?_⟩
    refine iset T KF s9 ks ms fun e he => ev_none he ⟨_, IA, fun hB' tkB IB => ?_⟩
    refine iset T KF s10 ks ms fun e he => ev_false he ⟨_, IB, fun hC tkC IC => ?_⟩
    refine N.eNil ?_
    exact h hC _ _ _ _ _ szG (Nat.le_trans szG (Nat.le_of_lt szv)) (Nat.ne_of_lt szv) (IC.ob.trans (congrArg (fun z => some (⟨.ref 729, some dx, .plain, z⟩ : Obj)) put_all)) (IC.w _ _ (.inl (.inr ⟨rfl, rfl⟩))).1 (IC.w _ _ (.inr ⟨rfl, rfl⟩)).1 fun a o ha e => (IC.w a o (.inl (.inl ⟨ha, e⟩))).1
end
end Fb
namespace Fb
noncomputable def isBox0 (e : Expr) : Bool := nT e fun xs => on2 xs fun y z => mS y fun x sl => lZ sl fun a b c => fZ a && fZ c && fQ b fun h => isNm (Str.ofString "script") x && isInt 36 h && isInt 0 z
noncomputable def isNew (e : Expr) : Bool := dA e fun f xs _ => on1 xs fun y => mS y fun l i => nT l fun zs => on3 zs fun a b c => dA i fun t ys _ => on2 ys fun x n => isNm (Str.ofString "Builder") f && isInt 0 a && isInt 1 b && isInt 24 c && isNm (Str.ofString "_law_take") t && isNm (Str.ofString "box") x && isInt 3 n
noncomputable def isPile0 (e : Expr) : Bool := nT e fun xs => on2 xs fun y z => nT y fun ys => ys.isEmpty && isInt 1 z
theorem cE {h : Heap} {a : Addr} (q : h.objs.size <= a) : h.get? a = none := by
  induction e : h.get? a using Option.casesOn with
  | none => rfl
  | some o => exact absurd (Heap.lt_size e) (Nat.not_lt.mpr q)
theorem size_le {h h' : Heap} {a : Addr} (G : Grows h h') (q : h'.get? a = none) : h.get? a = none := by
  induction e : h.get? a using Option.casesOn with
  | none => rfl
  | some o => rw [G a o e] at q; exact nomatch q
theorem aP {h : Heap} {a b : Addr} {o : Obj} (e : h.get? a = some o) (n : h.get? b = none) : a ≠ b := by
  rintro rfl; rw [e] at n; cases n
theorem oF {env : Env} {pos : Pos} {es : List Expr} (h : es.all aS = true) : backTo pos (starEach es env) = es.map fun e => (false, eval e env) := by
  have hc : ∀ l : List Expr, l.all aS = true -> aZ (fun _ _ => true) l (l.map fun _ => IE.bad) = true := by
    intro l
    induction l with
    | nil => intro _; rfl
    | cons e es ih =>
      intro hl
      rw [List.all_cons, Bool.and_eq_true] at hl
      show (aS e && true && aZ _ es (es.map fun _ => IE.bad)) = true
      rw [hl.1, ih hl.2]; rfl
  rw [dI (hc es h), fA]
section
variable {prog : Program} {w : World} {g : Heap} {K : Frag} {A : Around} {E : Value -> Shared -> Prop} {s : Shared} {env : Env} {m : Str -> Option Value} {lev : Nat}
theorem ev_box {e : Expr} {a : Addr} {vs : Array Value} {l : List Int} {Q : Value -> Shared -> Prop} (he : isBox0 e = true) (H : Env0 g env s.heap m) (k : env.kindOf (Str.ofString "script") = some .local) (hm : m (Str.ofString "script") = some (.ref a)) (hl : s.heap.IsList a vs) (is : IntsAre vs.toList l) (hn : l.length <= 1000)
    (h : ∀ h' tk bl bx t vs', Grows s.heap h' -> s.heap.get? bl = none -> s.heap.get? bx = none -> bl ≠ bx -> h'.get? bl = some (lob vs' 0) -> IntsAre vs'.toList (l.take 36) -> h'.get? bx = some (lob #[.ref bl, .int 0 t] 0) -> Q (.ref bx) (Fb.sh s h' tk)) :
    wpN (model prog w) A (eval e env) Q E s := by
  refine fO he fun xs p3 w1 => ?_
  refine fE w1 fun y z w2 => ?_
  refine dN w2 fun x sl p2 w3 => ?_
  refine fP w3 fun a0 b0 c0 p1 w4 => ?_
  have zq0 := an w4; have w5 := zq0.1; have w6 := zq0.2; clear zq0
  obtain rfl := bS (an w5).1
  obtain rfl := bS (an w5).2
  refine cN w6 fun hh w7 => ?_
  have zq0 := an w7; have w8 := zq0.1; have s3 := zq0.2; clear zq0
  have zq0 := an w8; have s1 := zq0.1; have s2 := zq0.2; clear zq0
  . refine N.List ?_
    rw [oF (by show (true && (aS z && true)) = true; rw [eS s3]; rfl)]
    have hsz : vs.size = l.length := by have := bI is; simpa using this
    refine N.cons (N.Subscript (ev_nm s1 H k hm (by decide) (mN (gN s2 ?_))))
    have G := Grows.push s.heap (sob .none (.int 36 s.toks) .none)
    have hil : (s.heap.push (sob .none (.int 36 s.toks) .none)).IsList a vs := aU hl fun o e => G _ o e
    refine aB (tail_any (T := "list") (ops := [.ref s.heap.objs.size, .ref a]) (Heap.IsList.typeIs (s := { s with heap := _ }) hil) slot_list_getitem.lookup (wpAny_getItem_list_slice hil (Heap.IsSliceOf.new ..) .none (.int 36 s.toks) .none (by simp) ?_ (by rw [sizeLine_eq]; (rw [hsz]; lia))) rfl)
    refine N.cons (gN s3 (N.nil (aB (wpAny_newObj_type ?_ (by show (#[_, _] : Array Value).size <= sizeLine; rw [sizeLine_eq]; exact Nat.le_of_ble_eq_true rfl)))))
    have G2 := Grows.push (s.heap.push (sob .none (.int 36 s.toks) .none)) (lob (slicePick vs none (some 36) none) 0)
    have G3 := Grows.push ((s.heap.push (sob .none (.int 36 s.toks) .none)).push (lob (slicePick vs none (some 36) none) 0)) (lob #[.ref (s.heap.push (sob .none (.int 36 s.toks) .none)).objs.size, .int 0 (s.toks + 1)] 0)
    have e1 := Heap.get?_push_size (s.heap.push (sob .none (.int 36 s.toks) .none)) (o := lob (slicePick vs none (some 36) none) 0) rfl
    refine h _ _ (s.heap.push (sob .none (.int 36 s.toks) .none)).objs.size _ _ _ ((G.trans G2).trans G3) (size_le G (cE (Nat.le_refl _))) (size_le (G.trans G2) (cE (Nat.le_refl _))) (aP e1 (cE (Nat.le_refl _))) (G3 _ _ e1) ?_ (Heap.get?_push_size _ rfl)
    have := slice_ints_uptoW (vs := vs.toList) is (y := 36) (by exact Int.natCast_nonneg _)
    simpa using this
theorem ev_pile {e : Expr} {Q : Value -> Shared -> Prop} (he : isPile0 e = true)
    (h : ∀ h' tk pa pl t, Grows s.heap h' -> s.heap.get? pa = none -> s.heap.get? pl = none -> pa ≠ pl -> h'.get? pa = some (lob #[] 0) -> h'.get? pl = some (lob #[.ref pa, .int 1 t] 0) -> Q (.ref pl) (Fb.sh s h' tk)) :
    wpN (model prog w) A (eval e env) Q E s := by
  refine fO he fun xs p2 w1 => ?_
  refine fE w1 fun y z w2 => ?_
  refine fO w2 fun ys p1 w3 => ?_
  have zq0 := an w3; have w4 := zq0.1; have he := zq0.2; clear zq0
  obtain rfl := List.isEmpty_iff.mp w4
  . refine N.List ?_
    rw [oF (by show (true && (aS z && true)) = true; rw [eS he]; rfl)]
    refine N.cons (N.List ?_)
    rw [oF rfl]
    refine N.nil (aB (wpAny_newObj_type ?_ (by show (#[] : Array Value).size <= sizeLine; rw [sizeLine_eq]; exact Nat.le_of_ble_eq_true rfl)))
    refine N.cons (gN he (N.nil (aB (wpAny_newObj_type ?_ (by show (#[_, _] : Array Value).size <= sizeLine; rw [sizeLine_eq]; exact Nat.le_of_ble_eq_true rfl)))))
    have G := Grows.push s.heap (lob #[] 0)
    have G2 := Grows.push (s.heap.push (lob #[] 0)) (lob #[.ref s.heap.objs.size, .int 1 s.toks] 0)
    have e1 := Heap.get?_push_size s.heap (o := lob #[] 0) rfl
    exact h _ _ s.heap.objs.size _ _ (G.trans G2) (cE (Nat.le_refl _)) (size_le G (cE (Nat.le_refl _))) (aP e1 (cE (Nat.le_refl _))) (G2 _ _ e1) (Heap.get?_push_size _ rfl)
theorem ev_new (T : Stat K g) (KF : KFacts K) (FT : TakeF K) (FI : InitF K) (hm : makesIn K 729 = true) (hi : findIn K (.ref 729) "__init__" = some (some (.ref 343))) (hf : typeIn K (.ref 343) = some (.type "function")) (hk : keepIn K (.ref 729) = true)
    {e : Expr} {bx bl : Addr} {ls : Array Value} {l : List Int} {t0 : Tok} {Q : Value -> Shared -> Prop} (he : isNew e = true) (hB : Bud (lev + 2) A) (H : Env0 g env s.heap m) (kB : env.kindOf (Str.ofString "Builder") = some .globalImplicit) (kt : env.kindOf (Str.ofString "_law_take") = some .globalImplicit) (kx : env.kindOf (Str.ofString "box") = some .local)
    (mx : m (Str.ofString "box") = some (.ref bx)) (hbx : s.heap.IsList bx #[.ref bl, .int 0 t0]) (hbl : s.heap.IsList bl ls) (is : IntsAre ls.toList l) (hl : l.length <= 1000) (hne : bx ≠ bl) (hog : g.get? bx = none)
    (h : ∀ h' tk b dx ba vd n j t t1 t2, 0 <= j -> 0 <= n -> n <= 24 -> h'.IsList bx #[.ref bl, .int j t] -> s.heap.get? b = none -> s.heap.get? dx = none -> s.heap.get? ba = none -> s.heap.get? vd = none -> dx ≠ b -> b ≠ ba -> b ≠ vd -> dx ≠ ba -> dx ≠ vd -> ba ≠ vd -> vd ≠ sysModules ->
      h'.get? b = some ⟨.ref 729, some dx, .plain, #[some (.ref ba), some .none, some (.bool false), some (.bool false), some (.int n t1), some (.int 1 t2), some (.bool false), some .none, some .none, none, some (.ref vd)]⟩ -> h'.get? dx = some (dictOf [] 0) ->
      h'.get? ba = some (bob (List.replicate n.toNat 0)) -> h'.get? vd = some (dictOf [] 0) -> (∀ a o, a ≠ bx -> s.heap.get? a = some o -> h'.get? a = some o) -> Q (.ref b) (Fb.sh s h' tk)) :
    wpN (model prog w) A (eval e env) Q E s := by
  refine bA he fun f xs p4 w1 => ?_
  refine bW w1 fun y w2 => ?_
  refine dN w2 fun l0 i0 p3 w3 => ?_
  refine fO w3 fun zs p1 w4 => ?_
  refine on3_el w4 fun a b c w5 => ?_
  refine bA w5 fun tk ys p2 w6 => ?_
  refine fE w6 fun x n w7 => ?_
  obtain ⟨w8, s7⟩ := an w7
  obtain ⟨w9, s6⟩ := an w8
  obtain ⟨wA, s5⟩ := an w9
  obtain ⟨wB, s4⟩ := an wA
  obtain ⟨wC, s3⟩ := an wB
  obtain ⟨s1, s2⟩ := an wC
  . refine ev_call (P := K.In) s1 rfl (oK T KF s1 H (i := 30) rfl kB (by decide) ⟨keeps_K hk, ?_⟩)
    refine N.cons (N.Subscript (N.List ?_))
    rw [oF (by show (aS a && (aS b && (aS c && true))) = true; rw [eS s2, eS s3, eS s4]; rfl)]
    refine N.cons (gN s2 (N.cons (gN s3 (N.cons (gN s4 (N.nil (aB (wpAny_newObj_type ?_ (by show (#[_, _, _] : Array Value).size <= sizeLine; rw [sizeLine_eq]; exact Nat.le_of_ble_eq_true rfl)))))))))
    have G := Grows.push s.heap (lob #[.int 0 s.toks, .int 1 (s.toks + 1), .int 24 (s.toks + 1 + 1)] 0)
    have ec := Heap.get?_push_size s.heap (o := lob #[.int 0 s.toks, .int 1 (s.toks + 1), .int 24 (s.toks + 1 + 1)] 0) rfl
    have H1 := H.grow G
    refine ev_call (P := K.In) s5 (by show (aS x && (aS n && true)) = true; rw [pC s6, eS s7]; rfl) (oK (s := (Fb.sh s (s.heap.push (lob #[.int 0 s.toks, .int 1 (s.toks + 1), .int 24 (s.toks + 1 + 1)] 0)) _)) T KF s5 H1 (i := 32) rfl kt (by decide) ⟨keeps_K (KF.keep 32 _ _ (by decide) rfl), ?_⟩)
    refine N.cons (ev_nm (s := (Fb.sh s (s.heap.push (lob #[.int 0 s.toks, .int 1 (s.toks + 1), .int 24 (s.toks + 1 + 1)] 0)) _)) s6 H1 kx mx (by decide) (N.cons (gN s7 (N.nil ⟨T.X.keeps H1.st, ?_⟩))))
    refine take0 (lev := lev + 1) (s := (Fb.sh s (s.heap.push (lob #[.int 0 s.toks, .int 1 (s.toks + 1), .int 24 (s.toks + 1 + 1)] 0)) _)) T KF FT hB H1.st (aU hbx fun o e => G _ o e) (aU hbl fun o e => G _ o e) is hl (by decide) hne hog fun hH tkH r j t t' hr0 hr1 hj hbxH kp => ?_
    have ncx : s.heap.objs.size ≠ bx := by
      obtain ⟨o, eo, _⟩ := hbx
      exact (aP eo (cE (Nat.le_refl _))).symm
    have ecG := kp _ _ ncx ec
    have stG : g.StaysIn hH := fun y o q => kp y o (fun q' => by subst q'; rw [hog] at q; exact nn q) (G y o (H.st y o q))
    refine bcn fun nG => ?_; obtain ⟨v, hv, hvn⟩ : ∃ n : Int, (∃ t, (#[.int 0 s.toks, .int 1 (s.toks + 1), .int 24 (s.toks + 1 + 1)] : Array Value)[r.toNat]? = some (.int n t)) /\ 0 <= n /\ n <= 24 := by
      have : r = 0 \/ r = 1 \/ r = 2 := by lia
      rcases this with rfl | rfl | rfl
      . exact ⟨0, ⟨_, rfl⟩, by decide, by decide⟩
      . exact ⟨1, ⟨_, rfl⟩, by decide, by decide⟩
      . exact ⟨24, ⟨_, rfl⟩, by decide, by decide⟩
    obtain ⟨tv, hv⟩ := hv
    refine nG ?_; refine aB (ix_list (s := (Fb.sh s hH tkH)) rfl (eE ecG) hr0 (by lia) (Nat.le_of_ble_eq_true rfl) hv ?_)
    refine N.nil ⟨T.X.keeps stG, ?_⟩
    have XG : K.In hH := T.X.keeps stG
    refine cX (make_coreN (makes_of XG hm) (looks_findIn XG hi) (fun self => bind_fn XG self hf) ?_)
    have k : ∀ b o, hH.get? b = some o -> ((hH.push emptyDict).push (instObj 729 hH.objs.size)).get? b = some o := fun b o e => Heap.get?_push_of_some _ (Heap.get?_push_of_some _ e)
    have hb2 : (hH.push emptyDict).objs.size = hH.objs.size + 1 := Heap.size_push ..
    have eb : ((hH.push emptyDict).push (instObj 729 hH.objs.size)).get? (hH.objs.size + 1) = some (instObj 729 hH.objs.size) := by heap_get
    have ed : ((hH.push emptyDict).push (instObj 729 hH.objs.size)).get? hH.objs.size = some (dictOf [] 0) := by heap_get
    have gnone : ∀ y, hH.objs.size <= y -> g.get? y = none := fun y hy => by
      induction e : g.get? y using Option.casesOn with
      | none => rfl
      | some o => have := stG _ _ e; rw [cE hy] at this; exact nn this
    have snone : ∀ y, hH.objs.size <= y -> s.heap.get? y = none := fun y hy => by
      induction e : s.heap.get? y using Option.casesOn with
      | none => rfl
      | some o =>
        by_cases q : y = bx
        . subst q; obtain ⟨o', eo, _⟩ := hbxH; rw [cE hy] at eo; exact nn eo
        . have := kp y o q (G y o e); rw [cE hy] at this; exact nn this
    refine init0 (lev := lev) (s := ⟨(hH.push emptyDict).push (instObj 729 hH.objs.size), s.gens, s.drawn, tkH, s.os⟩) T KF FI hB.made (fun y o q => k y o (stG y o q)) eb ed (Nat.ne_of_lt (Nat.lt_succ_self _)) (gnone _ (Nat.le_succ _)) hvn.1 (by exact Int.le_trans hvn.2 (by decide)) fun hJ tkJ ba vd t1 t2 z1 z2 z3 z4 z5 z6 z7 => ?_
    have n1 := cE z1
    have n2 := cE z2
    have nn : ∀ y o, hH.get? y = some o -> y ≠ hH.objs.size + 1 := fun y o e => aP e (cE (Nat.le_succ _))
    refine bcn fun nG => ?_; obtain ⟨_, _, BI, _⟩ := iI FI.chk
    obtain ⟨oI, hoI, _⟩ := BI.obj
    have l343 : 343 < hH.objs.size := Heap.lt_size (XG _ _ hoI)
    have szz : hH.objs.size <= ((hH.push emptyDict).push (instObj 729 hH.objs.size)).objs.size := by rw [Heap.size_push, Heap.size_push]; lia
    refine nG ?_; refine ⟨rfl, h hJ tkJ _ _ ba vd v j t' t1 t2 hj hvn.1 hvn.2 ?_ (snone _ (Nat.le_succ _)) (snone _ (Nat.le_refl _)) (snone _ (Nat.le_trans szz z1)) (snone _ (Nat.le_trans szz z2)) (Nat.ne_of_lt (Nat.lt_succ_self _)) (aP eb n1) (aP eb n2) (aP ed n1) (aP ed n2) z3 (fun q => absurd (Nat.lt_of_lt_of_le l343 (Nat.le_trans szz z2)) (by rw [q]; decide)) z4 (z7 _ _ (Nat.ne_of_lt (Nat.lt_succ_self _)) ed) z5 z6 fun y o hy e => z7 y o (nn y o (kp y o hy (G y o e))) (k y o (kp y o hy (G y o e)))⟩
    exact aU hbxH fun o e => z7 _ o (nn _ o e) (k _ o e)
end
end Fb
set_option genInjectivity false
set_option genCtorIdx false
set_option genSizeOf false
namespace Fb
noncomputable def isLaw (body : List Stmt) : Bool := mB body fun s1 r1 => mB r1 fun s2 r2 => mB r2 fun s3 _ => (gM s1 fun x a => isNm (Str.ofString "box") x && isBox0 a && bV a) && (gM s2 fun x a => isNm (Str.ofString "builder") x && isNew a && bV a) && (gM s3 fun x a => isNm (Str.ofString "pile") x && isPile0 a && bV a)
noncomputable def oA : List Str := fY ++ rest_law
structure LawF (K : Frag) : Prop where
  chk : chkB K 832 fY isLaw = true
  loc : ∀ fd, fnOf K 832 = some fd -> (∀ x ∈ [Str.ofString "script", Str.ofString "box", Str.ofString "builder", Str.ofString "pile"], fd.scope.names.lookup x = some .local) /\ fd.scope.names.lookup (Str.ofString "Builder") = some .globalImplicit /\ fd.scope.names.lookup (Str.ofString "_law_take") = some .globalImplicit
  cel : ∀ fd, fnOf K 832 = some fd -> ∀ x, fd.scope.names.lookup x ≠ some .cell
  cel0 : ∀ fd, fnOf K 832 = some fd -> ∀ n, cellsFrom n fd.scope.names [] = []
  bind : ∀ fd, fnOf K 832 = some fd -> ∀ a, bindArgs fd ⟨[a], []⟩ = pure (fY.zip [a])
  tail : ∀ fd, fnOf K 832 = some fd -> ∀ b, fd.body = .stmts b -> dC (chkS 30 oA fd.scope) (b.drop 3) ir_law = true
noncomputable def st0 (n : Nat) (l : List Int) (j : Int) : St := { ver := 0, bytes := List.replicate n 0, head := n, minalign := 1, oend := none, nested := false, vne := none, fin := false, cvv := 0, cv := none, vts := [], tbv := 0, tb := none, tlv := 0, tl := none, pile := [], pmax := 1, script := l, bi := j }
theorem st0_J {n : Nat} {l : List Int} {j : Int} (hn : n <= 1000) (hl : l.length <= 1000) (hj : 0 <= j) : J (st0 n l j) [] 0 := by
  refine ⟨⟨n, List.replicate n 0, (List.append_nil _).symm, List.length_replicate, rfl, by simp; (exact Nat.le_trans (by assumption) (Nat.le_add_left _ _))⟩, rfl, ⟨1, ?_, rfl, rfl⟩, ⟨rfl, rfl, hj, hl, Nat.le_refl _, fun _ h => nomatch h⟩⟩
  unfold Pw
  simp
theorem gnone {g h : Heap} {y : Addr} (st : g.StaysIn h) (e : h.get? y = none) : g.get? y = none := by
  induction q : g.get? y using Option.casesOn with
  | none => rfl
  | some o => rw [st _ _ q] at e; exact nomatch e
section
variable {prog : Program} {w : World} {g : Heap} {K : Frag} {A : Around} {E : Value -> Shared -> Prop} {s : Shared}
theorem act0 {env : Env} {m : Str -> Option Value} {h : Heap} {b dx ba vd pa pl bl bx : Addr} {n : Int} {j : Int} {l : List Int} {vs : Array Value} {t t1 t2 t3 : Tok} (H : Env0 g env h m) (hn : 0 <= n)
    (hloc : ∀ x ∈ [Str.ofString "script", Str.ofString "box", Str.ofString "builder", Str.ofString "pile"], env.kindOf x = some .local) (hcel : ∀ x, env.kindOf x ≠ some .cell) (hcs : env.cells = [])
    (mx : m (Str.ofString "box") = some (.ref bx)) (mb : m (Str.ofString "builder") = some (.ref b)) (mp : m (Str.ofString "pile") = some (.ref pl))
    (eb : h.get? b = some ⟨.ref 729, some dx, .plain, #[some (.ref ba), some .none, some (.bool false), some (.bool false), some (.int n t1), some (.int 1 t2), some (.bool false), some .none, some .none, none, some (.ref vd)]⟩) (ed : h.get? dx = some (dictOf [] 0))
    (ea : h.get? ba = some (bob (List.replicate n.toNat 0))) (ev : h.get? vd = some (dictOf [] 0)) (hsm : vd ≠ sysModules) (epa : h.get? pa = some (lob #[] 0)) (epl : h.IsList pl #[.ref pa, .int 1 t3]) (ebl : h.get? bl = some (lob vs 0)) (is : IntsAre vs.toList l) (ebx : h.IsList bx #[.ref bl, .int j t])
    (nd : [b, dx, ba, vd, pl, bx].Nodup) (off : ∀ a ∈ [b, dx, ba, vd, pl, bx], g.get? a = none) (hL : env.locals ∉ [b, dx, ba, vd, pl, bx]) (hpa : pa ∉ [b, dx, ba, vd, pl, bx]) (hbl : bl ∉ [b, dx, ba, vd, pl, bx]) :
    Act g ⟨b, ba, dx, vd, pl, bx, none, none, none, []⟩ (st0 n.toNat l j) env oA [.unb, .box, .bld, .pile, .unb, .unb, .unb, .unb, .unb, .unb] h := by
  have hnn : ((n.toNat : Nat) : Int) = n := by (exact Int.toNat_of_nonneg (by assumption))
  refine ⟨⟨⟨_, eb, rfl, fun k hk => ?_⟩, ed, ea, ⟨dictOf [] 0, #[], 0, [], ev, ⟨rfl, rfl, rfl⟩, rfl, rfl, rfl, List.nodup_nil, fun _ h => nomatch h⟩, hsm, trivial, trivial, trivial, ⟨pa, t3, epl, .ints ⟨hpa, fun h => nomatch h⟩ epa .nil⟩, ⟨bl, t, ebx, .ints ⟨hbl, fun h => nomatch h⟩ ebl is⟩, nd, off, (fun _ _ h => nomatch h), fun _ h => nomatch h⟩, H.st, H.ok, ⟨m, H.ns⟩, fun i x av hi hvis hf hu => ?_, ⟨hL, H.off⟩, fun y c hc => ?_, fun x y c hc => ?_, fun x hx => absurd hx (hcel x)⟩
  . cases k with
    | vtables => exact ⟨_, rfl, .vts⟩
    | vne => exact absurd rfl hk
    | shared => exact ⟨_, rfl, .none⟩
    | oend => exact ⟨_, rfl, .none⟩
    | nested => exact ⟨_, rfl, .bool _⟩
    | minalign => exact ⟨_, rfl, .int _ _⟩
    | head => exact ⟨_, rfl, by show RV _ _ _ (.int (n.toNat : Int)) _; rw [hnn]; exact .int _ _⟩
    | force => exact ⟨_, rfl, .bool _⟩
    | fin => exact ⟨_, rfl, .bool _⟩
    | cv => exact ⟨_, rfl, .none⟩
    | bytes => exact ⟨_, rfl, .bb (Nat.le_refl _) fun _ => rfl⟩
  . match i, hi, hf with
    | 0, _, hf => (have e9 := Option.some.inj hf; clear hf; subst e9); exact absurd rfl hu
    | 1, hi, hf => (have e9 := Option.some.inj hi; clear hi; subst e9); cases hf; exact ⟨_, .inl ⟨hloc _ (by decide), m, H.ns, mx⟩, .box⟩
    | 2, hi, hf => (have e9 := Option.some.inj hi; clear hi; subst e9); cases hf; exact ⟨_, .inl ⟨hloc _ (by decide), m, H.ns, mb⟩, .bld⟩
    | 3, hi, hf => (have e9 := Option.some.inj hi; clear hi; subst e9); cases hf; exact ⟨_, .inl ⟨hloc _ (by decide), m, H.ns, mp⟩, .pile⟩
    | 4, _, hf => (have e9 := Option.some.inj hf; clear hf; subst e9); exact absurd rfl hu
    | 5, _, hf => (have e9 := Option.some.inj hf; clear hf; subst e9); exact absurd rfl hu
    | 6, _, hf => (have e9 := Option.some.inj hf; clear hf; subst e9); exact absurd rfl hu
    | 7, _, hf => (have e9 := Option.some.inj hf; clear hf; subst e9); exact absurd rfl hu
    | 8, _, hf => (have e9 := Option.some.inj hf; clear hf; subst e9); exact absurd rfl hu
    | 9, _, hf => (have e9 := Option.some.inj hf; clear hf; subst e9); exact absurd rfl hu
    | _ + 10, _, hf => exact nn hf
  . rw [hcs] at hc; exact nn hc
  . rw [hcs] at hc; exact nn hc
theorem nd_law : oA.Nodup := by decide
theorem law0 (L : Leaf prog w g K) (hE : ∀ e ∈ ents, EntOk K e) (O : OddF K) (FT : TakeF K) (FI : InitF K) (FL : LawF K) (hmk : makesIn K 729 = true) (hi : findIn K (.ref 729) "__init__" = some (some (.ref 343))) (hf : typeIn K (.ref 343) = some (.type "function")) (hk : keepIn K (.ref 729) = true)
    {a : Addr} {vs : Array Value} {l : List Int} {Q : Value -> Shared -> Prop} (hB : Bud 9 A) (st : g.StaysIn s.heap) (hl : s.heap.IsList a vs) (is : IntsAre vs.toList l) (hn : l.length <= 1000)
    (h : ∀ h' tk, g.StaysIn h' -> Q (.bool true) (Fb.sh s h' tk)) :
    wpN (model prog w) A (call (.ref 832) [.ref a]) Q E s := by
  have T := L.T
  have KF := L.KF
  obtain ⟨fd, body, zq0⟩ := iI FL.chk; have B := zq0.1; have hs := zq0.2
  have zq0 := FL.loc fd B.at_; have hloc := zq0.1; have hBu := zq0.2.1; have htk := zq0.2.2; clear zq0
  have hcel := FL.cel fd B.at_
  have htail := FL.tail fd B.at_ body B.body
  refine cX (enter0 (lev := 8) T B (by decide) (fun x hx => hloc x (by cases hx with | head => decide | tail _ h => exact nomatch h)) hB st rfl (BindsTo.of_eq (FL.bind fd B.at_ _)) ?_)
  intro env hG tkG m he H G hsize hmD hcs
  rw [FL.cel0 fd B.at_] at hcs
  have kof : ∀ y, env.kindOf y = fd.scope.names.lookup y := by intro y; rw [<- he]; rfl
  have kl : ∀ x ∈ [Str.ofString "script", Str.ofString "box", Str.ofString "builder", Str.ofString "pile"], env.kindOf x = some .local := fun x hx => (kof x).trans (hloc x hx)
  have hlG : hG.IsList a vs := aU hl fun o e => G _ o e
  have ms : m (Str.ofString "script") = some (.ref a) := hmD 0 _ _ rfl rfl
  obtain ⟨oLG, _, _, zq0⟩ := id H.ns; have eLH := zq0.1
  revert htail
  refine eN hs fun y1 r1 w1 => ?_
  refine eN w1 fun y2 r2 w2 => ?_
  refine eN w2 fun y3 rest w3 => ?_
  have zq0 := an w3; have w4 := zq0.1; have k3 := zq0.2; clear zq0
  have zq0 := an w4; have k1 := zq0.1; have k2 := zq0.2; clear zq0
  refine bU k1 fun x e1 q2 k4 => ?_
  refine bU k2 fun y e2 q4 k5 => ?_
  refine bU k3 fun z e3 q6 k6 => ?_
  have zq0 := an k4; have k7 := zq0.1; have c1 := zq0.2; clear zq0
  have zq0 := an k5; have k8 := zq0.1; have c2 := zq0.2; clear zq0
  have zq0 := an k6; have k9 := zq0.1; have c3 := zq0.2; clear zq0
  have zq0 := an k7; have n1 := zq0.1; have s1 := zq0.2; clear zq0
  have zq0 := an k8; have n2 := zq0.1; have s2 := zq0.2; clear zq0
  have zq0 := an k9; have n3 := zq0.1; have s3 := zq0.2; clear zq0
  obtain ⟨q1, rfl⟩ := bP n1
  obtain ⟨q3, rfl⟩ := bP n2
  obtain ⟨q5, rfl⟩ := bP n3
  intro htail
  . have hdrop : (Stmt.Assign [.Name (Str.ofString "box") q1] e1 q2 :: .Assign [.Name (Str.ofString "builder") q3] e2 q4 :: .Assign [.Name (Str.ofString "pile") q5] e3 q6 :: rest).drop 3 = rest := rfl
    rw [hdrop] at htail
    refine N.eCons (N.eName (ev_box (s := (Fb.sh s hG tkG)) s1 H (kl _ (by decide)) ms hlG is hn fun hH tkH bl bx t0 vs' GG nbl nbx nlx ebl is' ebx => ?_) (dP c1))
    have blL : bl ≠ env.locals := (aP eLH nbl).symm
    have bxL : bx ≠ env.locals := (aP eLH nbx).symm
    refine aB (st_nm (s := (Fb.sh s hH tkH)) (H.grow GG) (kl _ (by decide)) fun hJ tkJ HJ kG => ?_)
    have eblG := kG _ _ blL ebl
    have ebxG := kG _ _ bxL ebx
    have gbx : g.get? bx = none := gnone H.st nbx
    have hl36 : (l.take 36).length <= 1000 := by rw [List.length_take]; lia
    have mxG : (fun y => if y = Str.ofString "box" then some (Value.ref bx) else m y) (Str.ofString "box") = some (.ref bx) := by show (if _ then _ else _) = _; rw [if_pos rfl]
    refine N.eCons (N.eName (ev_new (lev := 6) (s := (Fb.sh s hJ tkJ)) T KF FT FI hmk hi hf hk s2 hB.deeper HJ ((kof _).trans hBu) ((kof _).trans htk) (kl _ (by decide)) mxG (eE ebxG) (eE eblG) is' hl36 nlx.symm gbx fun hW tkW b dx ba vd n j t t1 t2 hj hn0 hn1 bxG nb nd na nv d1 d2 d3 d4 d5 d6 hsm eb ed ea ev kZ => ?_) (dP c2))
    obtain ⟨oLH, _, _, zq0⟩ := id HJ.ns; have eLG := zq0.1
    have HW : Env0 g env hW (fun y => if y = Str.ofString "box" then some (Value.ref bx) else m y) :=
      ⟨HJ.ok, HJ.ns.at' fun o e => kZ _ o (aP eLH nbx) e, fun y o e => kZ y o (fun q => by subst q; rw [gbx] at e; exact nn e) (HJ.st y o e), HJ.off⟩
    have bL : b ≠ env.locals := (aP eLG nb).symm
    have dL : dx ≠ env.locals := (aP eLG nd).symm
    have aL : ba ≠ env.locals := (aP eLG na).symm
    have vL : vd ≠ env.locals := (aP eLG nv).symm
    have gb := gnone HJ.st nb
    have gd := gnone HJ.st nd
    have ga := gnone HJ.st na
    have gv := gnone HJ.st nv
    have eblJ := kZ _ _ nlx eblG
    refine aB (st_nm (s := (Fb.sh s hW tkW)) HW (kl _ (by decide)) fun hZ tkZ HZ kH => ?_)
    obtain ⟨oLJ, _, _, zq0⟩ := id HZ.ns; have eLJ := zq0.1
    have ebH := kH _ _ bL eb
    have edH := kH _ _ dL ed
    have eaH := kH _ _ aL ea
    have evH := kH _ _ vL ev
    have eblH := kH _ _ blL eblJ
    obtain ⟨oX, zq0⟩ := id bxG; have eoX := zq0.1; have rX := zq0.2
    have eoXH := kH _ _ bxL eoX
    refine N.eCons (N.eName (ev_pile (s := (Fb.sh s hZ tkZ)) s3 fun h₆ tkU pa pl t3 GJ npa npl npp epa epl => ?_) (dP c3))
    have paL : pa ≠ env.locals := (aP eLJ npa).symm
    have plL : pl ≠ env.locals := (aP eLJ npl).symm
    have gpl := gnone HZ.st npl
    refine aB (st_nm (s := (Fb.sh s h₆ tkU)) (HZ.grow GJ) (kl _ (by decide)) fun hU tkF HU kF => ?_)
    have kk : ∀ y o, y ≠ env.locals -> hZ.get? y = some o -> hU.get? y = some o := fun y o hy e => kF y o hy (GJ y o e)
    have hact := act0 (n := n) (j := j) (l := l.take 36) HU hn0 kl (fun x => by rw [kof]; exact hcel x) hcs
      (by show (if Str.ofString "box" = Str.ofString "pile" then _ else if Str.ofString "box" = Str.ofString "builder" then _ else if Str.ofString "box" = Str.ofString "box" then some (Value.ref bx) else _) = _; rw [if_neg (by decide), if_neg (by decide), if_pos rfl])
      (by show (if Str.ofString "builder" = Str.ofString "pile" then _ else if Str.ofString "builder" = Str.ofString "builder" then some (Value.ref b) else _) = _; rw [if_neg (by decide), if_pos rfl])
      (by show (if Str.ofString "pile" = Str.ofString "pile" then some (Value.ref pl) else _) = _; rw [if_pos rfl])
      (kk _ _ bL ebH) (kk _ _ dL edH) (kk _ _ aL eaH) (kk _ _ vL evH) hsm (kF _ _ paL epa) (eE (kF _ _ plL epl)) (kk _ _ blL eblH) is' ⟨oX, kk _ _ bxL eoXH, rX⟩
      (by
        simp only [List.nodup_cons, List.mem_cons, List.not_mem_nil, or_false, not_or, List.nodup_nil, not_false_eq_true, and_true]
        exact ⟨⟨d1.symm, d2, d3, aP ebH npl, (aP ebxG nb).symm⟩, ⟨d4, d5, aP edH npl, (aP ebxG nd).symm⟩, ⟨d6, aP eaH npl, (aP ebxG na).symm⟩, ⟨aP evH npl, (aP ebxG nv).symm⟩, (aP eoXH npl).symm⟩)
      (by
        intro y hy
        simp only [List.mem_cons, List.not_mem_nil, or_false] at hy
        rcases hy with rfl | rfl | rfl | rfl | rfl | rfl <;> assumption)
      (by
        simp only [List.mem_cons, List.not_mem_nil, or_false, not_or]
        exact ⟨bL.symm, dL.symm, aL.symm, vL.symm, plL.symm, bxL.symm⟩)
      (by
        simp only [List.mem_cons, List.not_mem_nil, or_false, not_or]
        exact ⟨(aP ebH npa).symm, (aP edH npa).symm, (aP eaH npa).symm, (aP evH npa).symm, npp, (aP eoXH npa).symm⟩)
      (by
        simp only [List.mem_cons, List.not_mem_nil, or_false, not_or]
        exact ⟨aP eblG nb, aP eblG nd, aP eblG na, aP eblG nv, aP eblH npl, nlx⟩)
    have snd := (wp_sound (lev := 8) (vars := oA) (Γ := Gam 8) T KF (gam_ok L hE O 8).1 (L.bfs 8) (L.pk 8) L.pm (L.bs 8) (L.nb 8) (L.sb 8) nd_law fuel).2.2
    refine snd 30 env rest ir_law (by rw [he]; exact htail) (A.deeper env) (Fb.sh s hU tkF) _ _ _ (fun fl _ _ => fl = .ret (.bool true)) _ _ hB.deeper hact (tail_ok 0 (st0_J (by (clear rX; (have q1 := zq0.1; clear zq0; (exact Int.toNat_le.mpr (by lia))))) hl36 hj) fun _ _ => rfl) ?_
    intro fl f fr' ρ' σ' h' tk hk' H' S' F'
    revert hk'
    refine F'.el (fun e => nomatch e) (fun e => nomatch e) fun av v r e => ?_
    cases e
    cases r
    exact h h' tk H'.st
end
end Fb
namespace Fb
theorem items_ints {R : WRecords} {cl : Str -> Option Addr} {h : Heap} : ∀ {xs : List WData} {vs : List Value} {as : List Addr}, WShape.hasItems R xs .int = true -> ReadsAllW R cl h vs xs as -> ∃ is, IntsAre vs is /\ is.length = xs.length
  | [], vs, as, _, r => by
    obtain ⟨rfl, _⟩ := readsAllW_nil_inv r
    exact ⟨[], .nil, rfl⟩
  | d :: xs, vs, as, hx, r => by
    obtain ⟨v, us, a1, a2, rfl, rfl, r1, r2⟩ := readsAllW_cons_inv r
    have hx' := Bool.and_eq_true_iff.mp (show (WShape.has R d .int && WShape.hasItems R xs .int) = true from by simpa [WShape.hasItems] using hx)
    obtain ⟨i, rfl⟩ := hasW_int hx'.1
    obtain ⟨t, rfl, _⟩ := readsW_int_inv r1
    obtain ⟨is, q1, q2⟩ := items_ints hx'.2 r2
    exact ⟨i :: is, .cons i t q1, by simp [q2]⟩
theorem args_open {R : WRecords} {cl : Str -> Option Addr} {h : Heap} {args : List WData} {vs : List Value} {as : List Addr} (hsh : WShape.hasAll R args [.list .int] = true) (hrd : ReadsAllW R cl h vs args as) :
    ∃ l its is xs, vs = [.ref l] /\ h.IsList l its /\ IntsAre its.toList is /\ args = [.list xs] /\ is.length = xs.length := by
  obtain ⟨d, r, rfl, h1, h2⟩ := hasAllW_cons hsh
  obtain rfl := hasAllW_nil h2
  obtain ⟨xs, rfl, h3⟩ := hasW_list h1
  obtain ⟨v, us, a1, a2, rfl, rfl, r1, r2⟩ := readsAllW_cons_inv hrd
  obtain ⟨rfl, _⟩ := readsAllW_nil_inv r2
  obtain ⟨l, o, its, n, ai, rfl, ho, hc, hd, ra, _⟩ := readsW_list_open r1
  obtain ⟨is, q1, q2⟩ := items_ints h3 ra
  exact ⟨l, its, is, xs, rfl, ⟨o, ho, hc, n, hd⟩, q1, rfl, q2⟩
theorem pre_len {R : WRecords} {xs : List WData} {n : Nat} {t : WTm} (h : (WTm.and (.not (.lt (.lit (.int n)) (.len (.arg 0)))) t).holds R { args := [.list xs] } = true) : xs.length <= n := by
  have h1 := (holds_andW h).1
  unfold WTm.holds at h1
  simp [WTm.value] at h1
  by_cases q : (n : Int) < xs.length
  . have : W.less? (.int (n : Int)) (.int (xs.length : Int)) = some true := by
      show some (decide ((n : Int) < (xs.length : Int))) = some true
      rw [decide_eq_true q]
    rw [this] at h1
    simp at h1
  . lia
end Fb
set_option genInjectivity false
set_option genCtorIdx false
set_option genSizeOf false
namespace Fb
noncomputable def loads {α : Type} (m : Sem α) (a : Addr) (o : Obj) : Option (Sem α) := match m with
  | .load b none k => if b == a then some (k o) else none
  | _ => none
set_option tactic.hygienic true in
theorem loads_inv {α : Type} {m m' : Sem α} {a : Addr} {o : Obj} (h : loads m a o = some m') : ∃ k, m = .load a none k /\ k o = m' := by
  cases m <;> first | (exact nomatch (show none = some m' from h)) | skip
  rename_i b p k
  induction p using Option.casesOn with
  | some _ => exact nomatch (show none = some m' from h)
  | none =>
    have h' : (if (b == a) = true then some (k o) else none) = some m' := h
    by_cases e : (b == a) = true
    . rw [if_pos e] at h'
      rw [eq_of_beq e]
      exact ⟨k, rfl, Option.some.inj h'⟩
    . rw [if_neg e] at h'
      exact nomatch h'
noncomputable def dfl (K : Frag) (f T : Addr) (args : Args) : Option (Sem (List (Str × Value))) := (K.lookup T).bind fun o => (fnOf K f).bind fun fd => loads (bindArgs fd args) T o
theorem iJ {K : Frag} {f T : Addr} {args : Args} {fd : FuncData} {bs : List (Str × Value)} {s : Shared} (h : fnOf K f = some fd) (e : dfl K f T args = some (pure bs)) (X : K.In s.heap) : BindsTo s fd args bs := by
  unfold dfl at e
  rw [h] at e
  induction ho : K.lookup T using Option.casesOn with
  | none => rw [ho] at e; exact nomatch e
  | some o =>
    rw [ho] at e
    obtain ⟨k, hk, hk2⟩ := loads_inv e
    intro M A E Q hq
    rw [hk]
    refine (show wpAny M A (load T >>= k) Q E s from wpAny_bind (wpAny_load (X _ _ ho) ?_))
    rw [hk2]
    exact wpAny_pure hq
noncomputable def ba (K : Frag) (vals : List Value) (f : Addr) : Option (Sem (List (Str × Value))) := (fnOf K f).map fun fd => bindArgs fd ⟨vals, []⟩
theorem ba_eq {K : Frag} {f : Addr} {vals : List Value} {fd : FuncData} {m : Sem (List (Str × Value))} (h : fnOf K f = some fd) (e : ba K vals f = some m) : bindArgs fd ⟨vals, []⟩ = m := by
  unfold ba at e
  rw [h] at e
  exact Option.some.inj e
noncomputable def cF (n : Nat) : List Ent := ents.filter fun e => e.nv == n && !e.dav && !(e.f == 499)
noncomputable def asks (K : Frag) (f : Addr) (p : FuncData -> Bool) : Bool := match fnOf K f with
  | some fd => p fd
  | none => false
theorem lU {K : Frag} {f : Addr} {p : FuncData -> Bool} {fd : FuncData} (e : asks K f p = true) (h : fnOf K f = some fd) : p fd = true := by
  unfold asks at e
  rw [h] at e
  exact e
noncomputable def kinds (l : List Str) (k : NameKind) (fd : FuncData) : Bool := l.all fun x => fd.scope.names.lookup x == some k
theorem dQ {l : List Str} {k : NameKind} {fd : FuncData} (h : kinds l k fd = true) : ∀ x ∈ l, fd.scope.names.lookup x = some k := fun x hx => eq_of_beq (List.all_eq_true.mp h x hx)
structure AllF (K : Frag) : Prop where
  facts : factsB K = true
  struct : structB K = true
  pack : packB K = true
  t50 : K.lookup 50 = some { cls := .type "tuple", data := .seq #[.type "str"] }
  t51 : K.lookup 51 = some { cls := .type "tuple", data := .seq #[.type "bytes", .type "bytearray"] }
  ents : (ents.all fun e => chkFn K e.f e.names e.rest e.irs) = true
  b0 : ((cF 0).map fun e => ba K [] e.f) = (cF 0).map fun e => some (pure (e.names.zip []))
  b1 : ∀ a, ((cF 1).map fun e => ba K [a] e.f) = (cF 1).map fun e => some (pure (e.names.zip [a]))
  b2 : ∀ a b, ((cF 2).map fun e => ba K [a, b] e.f) = (cF 2).map fun e => some (pure (e.names.zip [a, b]))
  b3 : ∀ a b c, ((cF 3).map fun e => ba K [a, b, c] e.f) = (cF 3).map fun e => some (pure (e.names.zip [a, b, c]))
  b4 : ∀ a b c d, ((cF 4).map fun e => ba K [a, b, c, d] e.f) = (cF 4).map fun e => some (pure (e.names.zip [a, b, c, d]))
  b5 : ∀ a b c d x, ((cF 5).map fun e => ba K [a, b, c, d, x] e.f) = (cF 5).map fun e => some (pure (e.names.zip [a, b, c, d, x]))
  d442 : ∀ a, dfl K 442 435 ⟨[a], []⟩ = some (pure (cV.zip [a, .none]))
  d499 : ∀ a b c d, dfl K 499 492 ⟨[a, b, c, d], []⟩ = some (pure (bO.zip [a, b, c, d]))
  d499k : ∀ a b c d, dfl K 499 492 (pF [a, b, c, d]) = some (pure (bO.zip [a, b, c, d]))
  d507 : ∀ a b c, dfl K 507 500 ⟨[a, b, c], []⟩ = some (pure (bJ.zip [a, b, c]))
  d515 : ∀ a b c, dfl K 515 508 ⟨[a, b, c], []⟩ = some (pure (bJ.zip [a, b, c]))
  d343 : ∀ a b, dfl K 343 336 ⟨[a, b], []⟩ = some (pure (dS.zip [a, b]))
  s507 : chkB K 507 bJ (isFin false) = true
  s515 : chkB K 515 bJ (isFin true) = true
  s550 : chkB K 550 kP isU8 = true
  g550 : asks K 550 (kinds [Str.ofString "Uint8Flags"] .globalImplicit) = true
  b550 : ∀ a b c d, ba K [a, b, c, d] 550 = some (newTuple [b, c, d] >>= fun t => pure [(Str.ofString "self", a), (Str.ofString "args", t)])
  pg : plainGet K 729 (Str.ofString "PrependSlot") = true
  fo : findObj K 729 (some (dictOf [] 0)) (Str.ofString "PrependSlot") = some (.bind (.builtin "function.__get__") (.ref 529))
  ty : typeIn K (.ref 529) = some (.type "function")
  fn : fnIn K 529 = true
  s756 : chkB K 756 fU isTake = true
  l756 : asks K 756 (fun fd => kinds (fU ++ [Str.ofString "number"]) .local fd && kinds [Str.ofString "len"] .globalImplicit fd) = true
  s343 : chkB K 343 dS isInit = true
  l343 : asks K 343 (fun fd => kinds dS .local fd && kinds [Str.ofString "Builder", Str.ofString "bytearray", Str.ofString "UOffsetTFlags"] .globalImplicit fd) = true
  mks : makesIn K 729 = true
  ini : findIn K (.ref 729) "__init__" = some (some (.ref 343))
  inf : typeIn K (.ref 343) = some (.type "function")
  kp : keepIn K (.ref 729) = true
  s832 : chkB K 832 fY isLaw = true
  l832 : asks K 832 (fun fd => kinds [Str.ofString "script", Str.ofString "box", Str.ofString "builder", Str.ofString "pile"] .local fd && kinds [Str.ofString "Builder", Str.ofString "_law_take"] .globalImplicit fd && fd.scope.names.all (fun p => !(p.2 == .cell)) && (match fd.body with | .stmts b => dC (chkS 30 oA fd.scope) (b.drop 3) ir_law | _ => false)) = true
  b832 : ∀ a, ba K [a] 832 = some (pure (fY.zip [a]))
  nl : nsIn K mainGlobals (Str.ofString "law") = some (some (.ref 832))
theorem len0 {α : Type} {l : List α} (h : l.length = 0) : l = [] := List.eq_nil_of_length_eq_zero h
theorem lenS {α : Type} {l : List α} {n : Nat} (h : l.length = n + 1) : ∃ a r, l = a :: r /\ r.length = n := by
  induction l using List.casesOn with
  | nil => exact nomatch h
  | cons a r => exact ⟨a, r, rfl, Nat.succ.inj h⟩
section
variable {K : Frag}
theorem lL {e : Ent} {vals : List Value} {s : Shared} {fd : FuncData} {l : List Ent} (hd : e.dav = false) (hm : e ∈ l) (q : (l.map fun e => ba K vals e.f) = l.map fun e => some (pure (e.names.zip vals))) (h : fnOf K e.f = some fd) : BindsTo s fd ⟨vals, []⟩ (e.names.zip (vals ++ if e.dav then [.none] else [])) := by
  rw [hd, if_neg Bool.false_ne_true, List.append_nil]
  exact BindsTo.of_eq (ba_eq h (List.map_inj_left.mp q e hm))
theorem nv_ents : (ents.all fun e => if e.f == 442 then e.dav && e.names == cV && e.nv == 1 else if e.f == 499 then !e.dav && e.names == bO && e.nv == 4 else !e.dav && decide (e.nv < 6)) = true := by kernel_rfl
theorem oR : ∀ (l : List (Str × NameKind)) (n : Addr), (l.all fun p => !(p.2 == .cell)) = true -> cellsFrom n l [] = []
  | [], _, _ => rfl
  | (x, k) :: l, n, h => by
    obtain ⟨h1, h2⟩ := an h
    have := oR l n h2
    induction k using NameKind.casesOn <;> first | exact this | exact ff h1
end
end Fb
namespace Fb
section
variable {K : Frag}
theorem len1 {α : Type} {l : List α} (h : l.length = 1) : ∃ a, l = [a] := by
  obtain ⟨a, r, rfl, h1⟩ := lenS h
  exact ⟨a, by rw [len0 h1]⟩
theorem len2 {α : Type} {l : List α} (h : l.length = 2) : ∃ a b, l = [a, b] := by
  obtain ⟨a, r, rfl, h1⟩ := lenS h
  obtain ⟨b, rfl⟩ := len1 h1
  exact ⟨a, b, rfl⟩
theorem len3 {α : Type} {l : List α} (h : l.length = 3) : ∃ a b c, l = [a, b, c] := by
  obtain ⟨a, r, rfl, h1⟩ := lenS h
  obtain ⟨b, c, rfl⟩ := len2 h1
  exact ⟨a, b, c, rfl⟩
theorem len4 {α : Type} {l : List α} (h : l.length = 4) : ∃ a b c d, l = [a, b, c, d] := by
  obtain ⟨a, r, rfl, h1⟩ := lenS h
  obtain ⟨b, c, d, rfl⟩ := len3 h1
  exact ⟨a, b, c, d, rfl⟩
theorem len5 {α : Type} {l : List α} (h : l.length = 5) : ∃ a b c d x, l = [a, b, c, d, x] := by
  obtain ⟨a, r, rfl, h1⟩ := lenS h
  obtain ⟨b, c, d, x, rfl⟩ := len4 h1
  exact ⟨a, b, c, d, x, rfl⟩
theorem bn (b : Bool) (h : (!b) = true) : b = false := by induction b using Bool.casesOn <;> first | rfl | exact nomatch h
theorem ents_ok (F : AllF K) : ∀ e ∈ ents, EntOk K e := by
  intro e he
  refine ⟨List.all_eq_true.mp F.ents e he, fun fd h s vals X hl => ?_⟩
  have q := List.all_eq_true.mp nv_ents e he
  by_cases c1 : (e.f == 442) = true
  . rw [if_pos c1] at q
    have zq0 := an q; have q1 := zq0.1; have q2 := zq0.2; clear zq0
    have zq0 := an q1; have q3 := zq0.1; have q4 := zq0.2; clear zq0
    rw [eq_of_beq q2] at hl
    rw [eq_of_beq c1] at h
    obtain ⟨a, rfl⟩ := len1 hl
    rw [q3, if_pos rfl, eq_of_beq q4]
    exact iJ h (F.d442 a) X
  . rw [if_neg c1] at q
    by_cases c2 : (e.f == 499) = true
    . rw [if_pos c2] at q
      have zq0 := an q; have q1 := zq0.1; have q2 := zq0.2; clear zq0
      have zq0 := an q1; have q3 := zq0.1; have q4 := zq0.2; clear zq0
      rw [eq_of_beq q2] at hl
      rw [eq_of_beq c2] at h
      obtain ⟨a, b, c, d, rfl⟩ := len4 hl
      rw [bn _ q3, if_neg Bool.false_ne_true, eq_of_beq q4]
      exact iJ h (F.d499 a b c d) X
    . rw [if_neg c2] at q
      have zq0 := an q; have q1 := zq0.1; have q2 := zq0.2; clear zq0
      have q2 := of_decide_eq_true q2
      have hd := bn _ q1
      have mem : ∀ n, e.nv = n -> e ∈ cF n := fun n hn => by
        unfold cF
        refine List.mem_filter.mpr ⟨he, ?_⟩
        rw [hn, beq_self_eq_true, hd, show (e.f == 499) = false from Bool.eq_false_iff.mpr c2]; rfl
      match hv : e.nv, hl with
      | 0, hl =>
        obtain rfl := len0 hl
        exact lL hd (mem 0 hv) F.b0 h
      | 1, hl =>
        obtain ⟨a, rfl⟩ := len1 hl
        exact lL hd (mem 1 hv) (F.b1 a) h
      | 2, hl =>
        obtain ⟨a, b, rfl⟩ := len2 hl
        exact lL hd (mem 2 hv) (F.b2 a b) h
      | 3, hl =>
        obtain ⟨a, b, c, rfl⟩ := len3 hl
        exact lL hd (mem 3 hv) (F.b3 a b c) h
      | 4, hl =>
        obtain ⟨a, b, c, d, rfl⟩ := len4 hl
        exact lL hd (mem 4 hv) (F.b4 a b c d) h
      | 5, hl =>
        obtain ⟨a, b, c, d, x, rfl⟩ := len5 hl
        exact lL hd (mem 5 hv) (F.b5 a b c d x) h
      | n + 6, _ => rw [hv] at q2; exact absurd q2 (Nat.not_lt.mpr (Nat.le_add_left 6 n))
theorem odd_ok (F : AllF K) : OddF K where
  f0 := F.s507
  f1 := F.s515
  u8 := F.s550
  ug := fun _ h => dQ (lU F.g550 h) _ (.head _)
  b0 := fun _ h _ a b c X => iJ h (F.d507 a b c) X
  b1 := fun _ h _ a b c X => iJ h (F.d515 a b c) X
  bk := fun _ h _ a b c d X => iJ h (F.d499k a b c d) X
  bu := fun _ h a b c d => ba_eq h (F.b550 a b c d)
  us := ⟨F.pg, F.fo, F.ty, F.fn⟩
theorem takeF_ok (F : AllF K) : TakeF K where
  chk := F.s756
  loc := fun _ h => by
    have zq0 := an (lU F.l756 h); have h1 := zq0.1; have h2 := zq0.2; clear zq0
    exact ⟨fun x hx => dQ h1 x (List.mem_append_left _ hx), dQ h1 _ (List.mem_append_right _ (.head _)), dQ h2 _ (.head _)⟩
  bind := fun _ h a b => by
    have hm : (⟨756, gS, jA, iD, false⟩ : Ent) ∈ cF 2 := by
      refine List.mem_filter.mpr ⟨?_, rfl⟩
      exact List.mem_of_find?_eq_some (show tab 756 = some _ from by rfl)
    exact ba_eq h (List.map_inj_left.mp (F.b2 a b) _ hm)
theorem init_ok (F : AllF K) : InitF K where
  chk := F.s343
  loc := fun _ h => by
    have zq0 := an (lU F.l343 h); have h1 := zq0.1; have h2 := zq0.2; clear zq0
    exact ⟨dQ h1, dQ h2 _ (.head _), dQ h2 _ (.tail _ (.head _)), dQ h2 _ (.tail _ (.tail _ (.head _)))⟩
  bind := fun _ h _ a b X => iJ h (F.d343 a b) X
theorem law_ok (F : AllF K) : LawF K where
  chk := F.s832
  loc := fun _ h => by
    have zq0 := an (lU F.l832 h); have h1 := zq0.1; have h2 := zq0.2; clear zq0
    have zq0 := an h1; have h3 := zq0.1; have h4 := zq0.2; clear zq0
    have zq0 := an h3; have h5 := zq0.1; have h6 := zq0.2; clear zq0
    exact ⟨dQ h5, dQ h6 _ (.head _), dQ h6 _ (.tail _ (.head _))⟩
  cel := fun _ h x q => by
    have zq0 := an (lU F.l832 h); have h1 := zq0.1; have h2 := zq0.2; clear zq0
    have zq0 := an h1; have h3 := zq0.1; have h4 := zq0.2; clear zq0
    obtain ⟨y, zq0⟩ := iN q; have hm := zq0.2
    have := List.all_eq_true.mp h4 _ hm
    exact nomatch (show (!(NameKind.cell == NameKind.cell)) = true from this)
  cel0 := fun _ h n => by
    have zq0 := an (lU F.l832 h); have h1 := zq0.1; have h2 := zq0.2; clear zq0
    exact oR _ n (an h1).2
  bind := fun _ h a => ba_eq h (F.b832 a)
  tail := fun _ h b hb => by
    have zq0 := an (lU F.l832 h); have h1 := zq0.1; have h2 := zq0.2; clear zq0
    rw [hb] at h2
    exact h2
theorem leaf_ok (F : AllF K) (prog : Program) (w : World) {g : Heap} (T : Stat K g) : Leaf prog w g K :=
  ⟨T, facts_ok F.facts, fun _ => bif_ok T.X ⟨F.t50, F.t51⟩, fun _ => pack_ok T.X F.pack, packMeth_ok T.X F.struct, fun _ => bsl_ok, fun _ => newTb_ok, fun _ => setB_ok⟩
theorem bud0 : Bud 9 callerA := ⟨rfl, by decide, by decide, rfl⟩
theorem law_end (F : AllF K) {prog : Program} {w : World} {g : Heap} {mg mb : Str -> Option Value} (KX : K.In g) (hg : g.Ns mainGlobals mg) (hb : g.Ns builtinsNs mb) (hbb : ∀ x : Str, x ≠ "__name__" -> mb x = bootBuiltins x) (hlim : g.NoLimit)
    {a : Addr} {vs : Array Value} {l : List Int} {Q E : Value -> Shared -> Prop} {s : Shared} (hs : s.heap = g) (hl : g.IsList a vs) (is : IntsAre vs.toList l) (hn : l.length <= 1000)
    (h : ∀ h' tk, g.StaysIn h' -> Q (.bool true) (Fb.sh s h' tk)) : mg (Str.ofString "law") = some (.ref 832) /\ wpN (model prog w) callerA (call (.ref 832) [.ref a]) Q E s := by
  subst hs
  have T : Stat K s.heap := ⟨KX, ⟨mg, mb, hg, hb, hbb⟩, hlim⟩
  exact ⟨mg_of KX hg F.nl, law0 (leaf_ok F _ w T) (ents_ok F) (odd_ok F) (takeF_ok F) (init_ok F) (law_ok F) F.mks F.ini F.inf F.kp bud0 (fun _ _ e => e) hl is hn h⟩
end
end Fb
set_option tactic.hygienic true
set_option genInjectivity false
set_option genCtorIdx false
set_option genSizeOf false
namespace Fb.H
noncomputable def topRunT (tb : String -> Option Builtin) (p : Program) (w : World) (nD : Nat) (ann : Option Value) : Nat -> SharedT -> Thread -> Option SharedT
  | 0, _, _ => none
  | n + 1, s, t => match through t with
    | true => some s
    | false => match stepOk nD ann t with
      | false => none
      | true => match stepT (denote tb) p w s t with
        | some (s', t') => topRunT tb p w nD ann n s' t'
        | none => none
theorem topRun_of {tb : String -> Option Builtin} {p : Program} {w : World} {nD : Nat} {ann : Option Value} : ∀ {n : Nat} {s s' : SharedT} {t : Thread}, topRunT tb p w nD ann n s t = some s' -> topRun tb p w nD ann n s.abs t = some s'.abs
  | 0, _, _, _, h => nomatch h
  | n + 1, s, s', t, h => by
    unfold topRunT at h
    unfold topRun
    cases he : through t with
    | true => rw [he] at h; cases h; rfl
    | false =>
      rw [he] at h
      cases hk : stepOk nD ann t with
      | false => rw [hk] at h; cases h
      | true =>
        rw [hk] at h
        cases hs : stepT (denote tb) p w s t with
        | none => rw [hs] at h; cases h
        | some r => obtain ⟨sH, tG⟩ := r; rw [hs] at h; rw [stepT_spec hs]; exact topRun_of h
noncomputable def impRunT (tb : String -> Option Builtin) (p : Program) (w : World) : Nat -> SharedT -> Thread -> Option SharedT
  | 0, _, _ => none
  | n + 1, s, t => match t.atExitBegin with
    | some [] => some s
    | some (_ :: _) => none
    | none => match stepT (denote tb) p w s t with
      | some (s', t') => impRunT tb p w n s' t'
      | none => none
theorem impRun_of {tb : String -> Option Builtin} {p : Program} {w : World} : ∀ {n : Nat} {s s' : SharedT} {t : Thread}, impRunT tb p w n s t = some s' -> importEnds tb p w n s.abs t = some s'.abs
  | 0, _, _, _, h => nomatch h
  | n + 1, s, s', t, h => by
    unfold impRunT at h
    unfold importEnds
    cases he : t.atExitBegin with
    | some l =>
      rw [he] at h
      cases l with
      | nil => cases h; rfl
      | cons _ _ => cases h
    | none =>
      rw [he] at h
      cases hs : stepT (denote tb) p w s t with
      | none => rw [hs] at h; cases h
      | some r => obtain ⟨sH, tG⟩ := r; rw [hs] at h; rw [stepT_spec hs]; exact impRun_of h
noncomputable def treeOf : Nat -> List Obj -> BT -> Option (BT × Nat)
  | n, [], t => some (t, n)
  | n, o :: l, t => match ((t.ins n o).get n).isSome with
    | true => treeOf (n + 1) l (t.ins n o)
    | false => none
theorem treeOf_abs {life : Life} : ∀ {l : List Obj} {n m : Nat} {t t' : BT}, treeOf n l t = some (t', m) -> absHeap t' m life = ⟨(absHeap t n life).objs ++ l.toArray, life⟩
  | [], n, m, t, t', h => by
    cases h
    show absHeap t n life = ⟨(absHeap t n life).objs ++ #[], life⟩
    rw [Array.append_empty]; rfl
  | o :: l, n, m, t, t', h => by
    unfold treeOf at h
    cases g : ((t.ins n o).get n).isSome with
    | false => rw [g] at h; cases h
    | true =>
      rw [g] at h
      rw [treeOf_abs h, absHeap_ins g]
      show Heap.mk (((absHeap t n life).objs.push o) ++ l.toArray) life = _
      refine congrArg (Heap.mk · life) (Array.toList_inj.mp ?_)
      simp only [Array.toList_append, Array.toList_push, List.append_assoc, List.singleton_append]
noncomputable def ofS (s : Shared) : Option SharedT := (treeOf 0 s.heap.objs.toList .nil).map fun t => ⟨t.1, t.2, s.heap.life, s.gens, s.drawn, s.toks, s.os⟩
theorem ofS_abs {s : Shared} {t : SharedT} (h : ofS s = some t) : t.abs = s := by
  obtain ⟨⟨u, m⟩, e, rfl⟩ := Option.map_eq_some_iff.mp h
  show Shared.mk (absHeap u m s.heap.life) _ _ _ _ = s
  rw [treeOf_abs e]
  show Shared.mk ⟨#[] ++ s.heap.objs.toList.toArray, _⟩ _ _ _ _ = s
  rw [Array.empty_append, Array.toArray_toList]
noncomputable def kept (p : Program) (h₀ : Heap) (s : Shared) : Bool := staticsOk (importedModules p.main.body) h₀ s.heap && namesBound p s.heap && gensDone s && laidKept h₀ s.heap
noncomputable def core (p : Program) (N : Nat) (w : World) : Option (Bool × Shared) :=
  (ofS (start (opening p)).1).bind fun a => (impRunT treeTable (opening p) w N a (start (opening p)).2).bind fun b => (fenceModules? p b.abs).bind fun sD => (ofS sD).bind fun c =>
    match sD.heap.isNs mainGlobals && sD.gens.size == 0 with
    | true => (topRunT treeTable p w sD.heap.objs.size (sD.heap.nsMap mainGlobals "__annotations__") N c (topStub p)).map fun d => (kept p sD.heap d.abs, d.abs)
    | false => none
theorem core_ends {p : Program} {N : Nat} {w : World} {s : Shared} (h : core p N w = some (true, s)) : openEnds treeTable p w N = some s := by
  obtain ⟨a, ha, h⟩ := Option.bind_eq_some_iff.mp h
  obtain ⟨b, hb, h⟩ := Option.bind_eq_some_iff.mp h
  obtain ⟨sD, hs, h⟩ := Option.bind_eq_some_iff.mp h
  obtain ⟨c, hc, h⟩ := Option.bind_eq_some_iff.mp h
  have hb := impRun_of hb
  rw [ofS_abs ha] at hb
  cases hg : (sD.heap.isNs mainGlobals && sD.gens.size == 0) with
  | false => rw [hg] at h; cases h
  | true =>
    rw [hg] at h
    obtain ⟨d, hd, e⟩ := Option.map_eq_some_iff.mp h
    obtain ⟨k1, k2⟩ := Prod.mk.inj e
    have hd := topRun_of hd
    rw [ofS_abs hc] at hd
    unfold openEnds fencedOpening topFrom
    rw [hb]
    show (fenceModules? p b.abs).bind _ = _
    rw [hs]
    show (match sD.heap.isNs mainGlobals && sD.gens.size == 0 with | true => _ | false => _ : Option Shared) = _
    rw [hg]
    show (topRun treeTable p w sD.heap.objs.size (sD.heap.nsMap mainGlobals "__annotations__") N sD (topStub p)).bind _ = _
    rw [hd]
    show (match kept p sD.heap d.abs with | true => some d.abs | false => none) = _
    rw [k1, <- k2]
noncomputable def chk (q : Program) (loose : List Str) (p : Program) (N : Nat) (w : World) := (core p N w).map fun x => (x.1, openSeen q loose (importedModules p.main.body) (fun _ => true) true x.2)
theorem left_of {p q : Program} {loose : List Str} {α : Type} {Yf : Shared -> α} {Ya : World -> α} {N : Nat}
    (run : ∀ w : World, chk q loose p N w = some (true, openGood q loose)) (run' : ∀ w : World, (core p N w).map (fun x => Yf x.2) = some (Ya w)) : LeftO p q loose (fun _ => true) Yf Ya N true := fun w => by
  obtain ⟨⟨b, s⟩, h, e⟩ := Option.map_eq_some_iff.mp (run w)
  obtain ⟨rfl, e2⟩ := Prod.mk.inj e
  have r := run' w
  rw [h] at r
  rw [core_ends h]
  exact congrArg some (Prod.ext e2 (Option.some.inj r))
noncomputable def ign {α : Sort _} (_ : α) : Bool := true
theorem twin : ign @chk = true := by k_qdec
end Fb.H
set_option tactic.hygienic true
namespace Fb.H
noncomputable def pick : List Obj -> Nat -> List Nat -> Frag
  | [], _, _ => []
  | _ :: _, _, [] => []
  | o :: l, n, a :: as => match Nat.beq n a with
    | true => match o.data with
      | .freed => pick l (n + 1) as
      | _ => (n, o) :: pick l (n + 1) as
    | false => pick l (n + 1) (a :: as)
theorem pick_in : ∀ (l : List Obj) (n : Nat) (as : List Nat) (a : Nat) (o : Obj), (pick l n as).lookup a = some o -> n <= a /\ l[a - n]? = some o /\ (match o.data with | .freed => False | _ => True)
  | [], _, _, _, _, h => nomatch h
  | _ :: _, _, [], _, _, h => nomatch h
  | x :: l, n, b :: as, a, o, h => by
    have step : ∀ as, (pick l (n + 1) as).lookup a = some o -> n <= a /\ (x :: l)[a - n]? = some o /\ (match o.data with | .freed => False | _ => True) := fun as h => by
      obtain ⟨h1, h2, h3⟩ := pick_in l (n + 1) as a o h
      refine ⟨Nat.le_of_succ_le h1, ?_, h3⟩
      rw [show a - n = (a - (n + 1)) + 1 from by omega]
      exact h2
    have one : ((n, x) :: pick l (n + 1) as : Frag).lookup a = some o -> (match x.data with | .freed => False | _ => True) -> n <= a /\ (x :: l)[a - n]? = some o /\ (match o.data with | .freed => False | _ => True) := fun h q => by
      have h' : (match a == n with | true => some x | false => (pick l (n + 1) as).lookup a) = some o := h
      cases e : a == n with
      | true =>
        rw [e] at h'
        cases h'
        rw [eq_of_beq e, Nat.sub_self]
        exact ⟨Nat.le_refl _, rfl, q⟩
      | false => rw [e] at h'; exact step _ h'
    unfold pick at h
    cases e : Nat.beq n b with
    | false => rw [e] at h; exact step _ h
    | true =>
      rw [e] at h
      cases hd : x.data with
      | freed => simp only [hd] at h; exact step _ h
      | _ => simp only [hd] at h; exact one h (by rw [hd]; trivial)
noncomputable def places : List Nat := [2, 3, 50, 51, 52, 53, 54, 55, 56, 57, 58, 59, 60, 69, 70, 83, 84, 97, 98, 111, 112, 125, 126, 139, 140, 153, 154, 167, 168, 181, 182, 195, 196, 207, 208, 219, 220, 228, 229, 235, 236, 336, 342, 343, 356, 357, 363, 364, 370, 371, 377, 378, 384, 385, 391, 392, 398, 399, 405, 406, 412, 413, 419, 420, 426, 427, 433, 434, 435, 441, 442, 455, 456, 462, 463, 469, 470, 476, 477, 483, 484, 490, 491, 492, 498, 499, 500, 506, 507, 508, 514, 515, 521, 522, 528, 529, 549, 550, 612, 613, 619, 620, 626, 627, 640, 641, 647, 648, 654, 655, 661, 662, 668, 669, 675, 676, 682, 683, 696, 697, 703, 704, 717, 718, 724, 725, 728, 729, 730, 731, 732, 733, 734, 735, 736, 737, 738, 739, 740, 748, 749, 755, 756, 762, 763, 769, 770, 776, 777, 781, 782, 788, 789, 795, 796, 800, 801, 805, 806, 810, 811, 817, 818, 824, 825, 831, 832]
noncomputable def kOf (h : Heap) : Frag := pick h.objs.toList 0 places
theorem kOf_in (h : Heap) : (kOf h).In h := fun a o e => by
  obtain ⟨_, h2, h3⟩ := pick_in _ _ _ _ _ e
  rw [Nat.sub_zero, Array.getElem?_toList] at h2
  unfold Heap.get?
  rw [h2]
  obtain ⟨c, d, dt, sl⟩ := o
  cases dt <;> first | rfl | exact h3.elim
noncomputable def bools (K : Frag) : List Bool := [factsB K, structB K, packB K, ents.all fun e => chkFn K e.f e.names e.rest e.irs, chkB K 507 bJ (isFin false), chkB K 515 bJ (isFin true), chkB K 550 kP isU8,
  asks K 550 (kinds [Str.ofString "Uint8Flags"] .globalImplicit), plainGet K 729 (Str.ofString "PrependSlot"), fnIn K 529, chkB K 756 fU isTake,
  asks K 756 (fun fd => kinds (fU ++ [Str.ofString "number"]) .local fd && kinds [Str.ofString "len"] .globalImplicit fd), chkB K 343 dS isInit,
  asks K 343 (fun fd => kinds dS .local fd && kinds [Str.ofString "Builder", Str.ofString "bytearray", Str.ofString "UOffsetTFlags"] .globalImplicit fd), makesIn K 729, keepIn K (.ref 729), chkB K 832 fY isLaw,
  asks K 832 (fun fd => kinds [Str.ofString "script", Str.ofString "box", Str.ofString "builder", Str.ofString "pile"] .local fd && kinds [Str.ofString "Builder", Str.ofString "_law_take"] .globalImplicit fd && fd.scope.names.all (fun p => !(p.2 == .cell)) && (match fd.body with | .stmts b => dC (chkS 30 oA fd.scope) (b.drop 3) ir_law | _ => false))]
noncomputable def binds (K : Frag) (a b c d x : Value) : List (List (Option (Sem (List (Str × Value))))) := [(cF 0).map fun e => ba K [] e.f, (cF 1).map fun e => ba K [a] e.f, (cF 2).map fun e => ba K [a, b] e.f, (cF 3).map fun e => ba K [a, b, c] e.f, (cF 4).map fun e => ba K [a, b, c, d] e.f, (cF 5).map fun e => ba K [a, b, c, d, x] e.f,
  [dfl K 442 435 ⟨[a], []⟩], [dfl K 499 492 ⟨[a, b, c, d], []⟩], [dfl K 499 492 (pF [a, b, c, d])], [dfl K 507 500 ⟨[a, b, c], []⟩], [dfl K 515 508 ⟨[a, b, c], []⟩], [dfl K 343 336 ⟨[a, b], []⟩], [ba K [a, b, c, d] 550], [ba K [a] 832]]
noncomputable def bindsG (a b c d x : Value) : List (List (Option (Sem (List (Str × Value))))) := [(cF 0).map fun e => some (pure (e.names.zip [])), (cF 1).map fun e => some (pure (e.names.zip [a])), (cF 2).map fun e => some (pure (e.names.zip [a, b])), (cF 3).map fun e => some (pure (e.names.zip [a, b, c])), (cF 4).map fun e => some (pure (e.names.zip [a, b, c, d])), (cF 5).map fun e => some (pure (e.names.zip [a, b, c, d, x])),
  [some (pure (cV.zip [a, .none]))], [some (pure (bO.zip [a, b, c, d]))], [some (pure (bO.zip [a, b, c, d]))], [some (pure (bJ.zip [a, b, c]))], [some (pure (bJ.zip [a, b, c]))], [some (pure (dS.zip [a, b]))],
  [some (newTuple [b, c, d] >>= fun t => pure [(Str.ofString "self", a), (Str.ofString "args", t)])], [some (pure (fY.zip [a]))]]
noncomputable def looks (K : Frag) := (bools K, binds K, [K.lookup 50, K.lookup 51], [typeIn K (.ref 529), typeIn K (.ref 343)], findObj K 729 (some (dictOf [] 0)) (Str.ofString "PrependSlot"), findIn K (.ref 729) "__init__", nsIn K mainGlobals (Str.ofString "law"))
noncomputable def looksG : List Bool × (Value -> Value -> Value -> Value -> Value -> List (List (Option (Sem (List (Str × Value)))))) × List (Option Obj) × List (Option Value) × Option Builtin.ObjectAttr.Found × Option (Option Value) × Option (Option Value) :=
  (List.replicate 18 true, bindsG, [some { cls := .type "tuple", data := .seq #[.type "str"] }, some { cls := .type "tuple", data := .seq #[.type "bytes", .type "bytearray"] }], [some (.type "function"), some (.type "function")],
    some (.bind (.builtin "function.__get__") (.ref 529)), some (some (.ref 343)), some (some (.ref 832)))
theorem nthB {l m : List Bool} (e : l = m) (i : Nat) : l[i]?.getD false = m[i]?.getD false := by rw [e]
theorem allF_of {K : Frag} (e : looks K = looksG) : AllF K := by
  have eb : bools K = List.replicate 18 true := congrArg (·.1) e
  have ef : binds K = bindsG := congrArg (·.2.1) e
  have e3 : [K.lookup 50, K.lookup 51] = [_, _] := congrArg (·.2.2.1) e
  have e4 : [typeIn K (.ref 529), typeIn K (.ref 343)] = [_, _] := congrArg (·.2.2.2.1) e
  have f (i : Nat) (a b c d x : Value) : (binds K a b c d x)[i]?.getD [] = (bindsG a b c d x)[i]?.getD [] := by rw [ef]
  have g (i : Nat) (a b c d x : Value) : ((binds K a b c d x)[i]?.getD []).headD none = ((bindsG a b c d x)[i]?.getD []).headD none := by rw [ef]
  exact {
    facts := nthB eb 0, struct := nthB eb 1, pack := nthB eb 2, t50 := (List.cons.inj e3).1, t51 := (List.cons.inj (List.cons.inj e3).2).1, ents := nthB eb 3,
    b0 := f 0 .none .none .none .none .none, b1 := fun a => f 1 a .none .none .none .none, b2 := fun a b => f 2 a b .none .none .none, b3 := fun a b c => f 3 a b c .none .none, b4 := fun a b c d => f 4 a b c d .none, b5 := f 5,
    d442 := fun a => g 6 a .none .none .none .none, d499 := fun a b c d => g 7 a b c d .none, d499k := fun a b c d => g 8 a b c d .none, d507 := fun a b c => g 9 a b c .none .none, d515 := fun a b c => g 10 a b c .none .none, d343 := fun a b => g 11 a b .none .none .none,
    s507 := nthB eb 4, s515 := nthB eb 5, s550 := nthB eb 6, g550 := nthB eb 7, b550 := fun a b c d => g 12 a b c d .none, pg := nthB eb 8, fo := congrArg (·.2.2.2.2.1) e, ty := (List.cons.inj e4).1, fn := nthB eb 9, s756 := nthB eb 10, l756 := nthB eb 11,
    s343 := nthB eb 12, l343 := nthB eb 13, mks := nthB eb 14, ini := congrArg (·.2.2.2.2.2.1) e, inf := (List.cons.inj (List.cons.inj e4).2).1, kp := nthB eb 15, s832 := nthB eb 16, l832 := nthB eb 17, b832 := fun a => g 13 a .none .none .none .none, nl := congrArg (·.2.2.2.2.2.2) e }
end Fb.H
set_option tactic.hygienic true
namespace Fb.H
noncomputable def qv : Program := view PySem.Challenge.pw_ar0011_01 [57]
noncomputable def loose : List Str := PySem.Challenge.pw_ar0011_01.boundNames.filter fun x => !(x == Str.ofString "law")
noncomputable def seen (s : Shared) := looks (kOf s.heap)
theorem run0 (w : World) : PySem.W.Fast.tw13198043982992294926 qv loose PySem.Challenge.pw_ar0011_01 15100 w = some (true, openGood qv loose) := by kernel_rfl
theorem run1 (w : World) : (PySem.W.Fast.tw12304331666009051349 PySem.Challenge.pw_ar0011_01 15100 w).map (fun x => seen x.2) = some looksG := by kernel_rfl
theorem left0 : LeftO PySem.Challenge.pw_ar0011_01 qv loose (fun _ => true) seen (fun _ => looksG) 15100 true :=
  left_of (fun w => by rw [PySem.W.Fast.te13198043982992294926]; exact run0 w) fun w => by rw [PySem.W.Fast.te12304331666009051349]; exact run1 w
theorem said : PySem.Challenge.rw_ar0011_01.wellSaid = true := by rw [PySem.W.Fast.te9446332074065402090]; kernel_rfl
end Fb.H
set_option maxHeartbeats 4000000 in
theorem PySem.Challenge.cw_ar0011_01_holds : PySem.Challenge.rw_ar0011_01.Holds := by
  refine holds_law Fb.H.said fun said => ?_
  refine Fb.N.holds (q := Fb.H.qv) (loose := Fb.H.loose) (XP := fun _ _ => True) (YP := fun _ h => ∃ K : Frag, K.In h /\ Fb.AllF K) Fb.H.left0 (fun w s e => ⟨_, Fb.H.kOf_in s.heap, Fb.H.allF_of e⟩) (fun w h h' ⟨K, X, F⟩ k => ⟨K, X.keeps k, F⟩)
    (fun _ _ => trivial) (fun _ _ _ _ _ => trivial) (by rfl) (by rfl) (by rfl) (fun s e => recFacts_of (by rfl)) (by rfl) (by first | assumption | decide +kernel) (by decide +kernel) ⟨rfl, rfl, rfl, rfl, rfl, by decide +kernel⟩ (by w_witness2) ?_
  intro w sD sG mg mb G Y args vs as hpre hlay Ld low
  obtain ⟨K, KX, F⟩ := Y
  obtain ⟨l, its, is, xs, rfl, hl, hi, rfl, hlen⟩ := Fb.args_open (pre_splitW hpre).1 Ld.reads
  have hx : xs.length <= 63 := Fb.pre_len (pre_splitW hpre).2
  obtain ⟨e1, e2⟩ := Fb.law_end F KX G.T.g G.T.b G.T.builtins G.T.nolimit rfl hl hi (by omega) (Q := fun v s' => GoodWG PySem.Challenge.rw_ar0011_01.row.claim (classAt sD.heap) (ExcName.means sD.heap) _ sG (.ok (.ret v)) s') (E := fun e s' => GoodWG PySem.Challenge.rw_ar0011_01.row.claim (classAt sD.heap) (ExcName.means sD.heap) _ sG (.error e) s') fun h' tk st => by
    refine ⟨.inl ⟨.bool true, .bool true, [], rfl, fun _ => rfl, .bool true, ?_, fun _ => ⟨List.nodup_nil, fun _ h => nomatch h⟩⟩, .of_keep st, rfl, .of_eq Ld.gens⟩
    wrow_post
  exact ⟨_, e1, e2⟩
