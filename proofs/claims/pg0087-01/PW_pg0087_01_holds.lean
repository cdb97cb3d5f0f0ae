import PyProof.Rows.All
import Wide.All
import OpenK.AllK
import OpenK.XSeg
import Wide.FinOn
import PySem.Challenge.RW_pg0087_01
set_option Elab.async false
namespace MineTop
section
open PySem PySem.W PyProof.Rows
set_option maxRecDepth 100000
set_option maxHeartbeats 8000000
open_top hd for PySem.Challenge.rw_pg0087_01
end
section
open PySem PySem.W PyProof.Rows PySem.Calls PySem.Spec
namespace Mine
def Halt (P : Prop) : Prop := P
theorem Halt.mk {P : Prop} (h : Halt P) : P := h
theorem Halt.go {P : Prop} (h : P) : Halt P := h
def putM : List (Str × Value) → (Str → Option Value) → Str → Option Value
  | [], m => m
  | (x, v) :: l, m => fun y => if y = x then some v else putM l m y
def Has (m : Str → Option Value) : List (Str × Value) → Prop
  | [] => True
  | (x, v) :: l => m x = some v ∧ Has m l
theorem putM_eq {m : Str → Option Value} : ∀ {l : List (Str × Value)}, Has m l → putM l m = m
  | [], _ => rfl
  | (x, v) :: l, h => by
    funext y
    show (if y = x then some v else putM l m y) = m y
    rw [putM_eq h.2]
    by_cases e : y = x
    · subst e; simp [h.1]
    · simp [e]
theorem Fr.put {h₀ h : Heap} {L : Addr} {m : Str → Option Value} (F : Fr h₀ L h m) (l : List (Str × Value)) (e : Has m l) : Fr h₀ L h (putM l m) := by rw [putM_eq e]; exact F

/-- what a loop's turn must end in -/
def LPost (I : Nat → Shared → Prop) (n : Nat) (Q : Flow → Shared → Prop) (f : Flow) (s : Shared) : Prop :=
  match f with
  | .next => ∃ m, m < n ∧ I m s
  | .cont => ∃ m, m < n ∧ I m s
  | .brk => Q .next s
  | .ret v => Q (.ret v) s
section
variable {prog : Program} {w : World} {A : Around} {E : Value → Shared → Prop} {s : Shared} {env : Env} {Q : Flow → Shared → Prop}
theorem myWhile {test : Expr} {body : List Stmt} {pos : Pos} (I : Nat → Shared → Prop)
    (turn : ∀ n s E', I n s → wpAny (model prog w) A (isTrue test env (eval test env)) (fun b s₂ => if b then wpAny (model prog w) A (execs body env) (fun f s₃ => LPost I n Q f s₃) E' s₂ else Q .next s₂) E' s)
    (n : Nat) (h : I n s) : wpAny (model prog w) A (exec (.While test body [] pos) env) Q E s := by
  refine wpAny_While (codeAny_whileLoop I (fun n s hI => ?_) n h)
  refine wpAny_mono (turn n s _ hI) (fun b s₂ hb => ?_) fun _ _ e => e
  cases b with
  | true =>
    simp only [if_true] at hb ⊢
    refine wpAny_mono hb (fun f s₃ h₃ => ?_) fun _ _ e => e
    cases f <;> exact h₃
  | false =>
    simp only [Bool.false_eq_true, if_false] at hb ⊢
    exact wpAny_execs_nil hb
end
end Mine
end
section
theorem fresh_B_bis : True := by
  w_top off
  trivial
open PySem PySem.W PyProof.Rows PySem.Calls PySem.Spec

open Mine
local macro_rules | `(tactic| walk_at "exec While Compare cons nil") => `(tactic| refine Mine.Halt.mk ?_)

namespace Mine
def bisGo (xs : List Str) (x : Str) : Nat → Nat → Nat → Nat
  | 0, lo, _ => lo
  | f + 1, lo, hi => if lo < hi then (if x.cps.toList < (xs.getD ((lo + hi) / 2) default).cps.toList then bisGo xs x f lo ((lo + hi) / 2) else bisGo xs x f ((lo + hi) / 2 + 1) hi) else lo
def bisR (xs : List Str) (x : Str) : Nat := bisGo xs x xs.length 0 xs.length
theorem strs_at {vs : List Value} {xs : List Str} (h : StrsAre vs xs) : ∀ i, i < xs.length → ∃ t, vs[i]? = some (.str (xs.getD i default) t) := by
  induction h with
  | nil => intro i hi; simp at hi
  | cons x t r ih =>
    intro i hi
    cases i with
    | zero => exact ⟨_, rfl⟩
    | succ i => simpa using ih i (by simpa using hi)
theorem mid_eq (lo hi : Nat) : ((lo : Int) + hi).fdiv 2 = (((lo + hi) / 2 : Nat) : Int) := by
  rw [Int.fdiv_eq_ediv_of_nonneg _ (by omega)]; omega
theorem bisGo_fuel (xs : List Str) (x : Str) : ∀ f f' lo hi, hi - lo ≤ f → hi - lo ≤ f' → bisGo xs x f lo hi = bisGo xs x f' lo hi := by
  intro f
  induction f with
  | zero =>
    intro f' lo hi h h'
    cases f' with
    | zero => rfl
    | succ f' => simp only [bisGo]; rw [if_neg (by omega)]
  | succ f ih =>
    intro f' lo hi h h'
    cases f' with
    | zero => simp only [bisGo]; rw [if_neg (by omega)]
    | succ f' =>
      simp only [bisGo]
      by_cases hl : lo < hi
      · simp only [if_pos hl]
        split
        · exact ih f' _ _ (by omega) (by omega)
        · exact ih f' _ _ (by omega) (by omega)
      · simp only [if_neg hl]
structure BisInv (xs : List Str) (x : Str) (tx : Tok) (la : Addr) (g : Heap) (L : Addr) (news : List (Addr × Obj)) (s : Shared) (n : Nat) (s' : Shared) : Prop where
  out : ∃ h' tk m' lo hi t1 t2, s' = { s with heap := h', toks := tk } ∧ Fr g L h' m' ∧ News g L h' news ∧ m' (Str.ofString "a") = some (.ref la) ∧ m' (Str.ofString "x") = some (.str x tx) ∧ m' (Str.ofString "lo") = some (.int (lo : Nat) t1) ∧ m' (Str.ofString "hi") = some (.int (hi : Nat) t2) ∧ lo ≤ hi ∧ hi ≤ xs.length ∧ (∀ f, hi - lo ≤ f → bisGo xs x f lo hi = bisR xs x) ∧ n = hi - lo
theorem BisInv.mk' {xs : List Str} {x : Str} {tx : Tok} {la : Addr} {g : Heap} {L : Addr} {news : List (Addr × Obj)} {s : Shared} {h' : Heap} {tk : Nat} {m' : Str → Option Value} {lo hi : Nat} {zl zh : Int} {t1 t2 : Tok}
    (F : Fr g L h' m') (N : News g L h' news) (e1 : m' (Str.ofString "a") = some (.ref la)) (e2 : m' (Str.ofString "x") = some (.str x tx)) (e3 : m' (Str.ofString "lo") = some (.int zl t1)) (e4 : m' (Str.ofString "hi") = some (.int zh t2))
    (hl : zl = (lo : Nat)) (hh : zh = (hi : Nat)) (h1 : lo ≤ hi) (h2 : hi ≤ xs.length) (h3 : ∀ f, hi - lo ≤ f → bisGo xs x f lo hi = bisR xs x) : BisInv xs x tx la g L news s (hi - lo) { s with heap := h', toks := tk } := by
  subst hl hh
  exact ⟨h', tk, m', lo, hi, t1, t2, rfl, F, N, e1, e2, e3, e4, h1, h2, h3, rfl⟩
end Mine
set_option maxRecDepth 100000 in
set_option maxHeartbeats 8000000 in
theorem bis0 : ∀ {w : World} {mean : ExcName → Option Value} {mg mb : Str → Option Value} {loose : List Str} (vs : List Value) (xs : List Str) (hxs : StrsAre vs xs) (la : Addr) (x : Str) (tx : Tok)
   {dp un : Nat} {gd : Option (List Code)} {cn : Str} {cs : Scope} {a : Addr} {ccd : Value} {cl : List (Str × Addr)} {outer : List Env} {A₀ : Around} {base h₀ : Heap} {L : Addr} {m : Str → Option Value} {news : List (Addr × Obj)} {s : Shared} {Q E : Value → Shared → Prop}
   (B : Below A₀ base outer h₀) (F : Fr h₀ L s.heap m) (X : (hd.heap_39 w.params).In h₀) (N : News h₀ L s.heap news) (T : Top topProg loose mean mg mb h₀) (hk : cs.kind = .function)
   (nn : Nat) (hla : (la, listOf vs.toArray nn) ∈ news) (hlen : xs.length < 2 ^ 20) (hdp : dp + 1 < recursionLimit) (hun : un + 8 < cLine)
   (hret : ∀ t h' tk', Fr h₀ L h' m → News h₀ L h' news → Q (.int (bisR xs x : Nat) t) { s with heap := h', toks := tk' }),
   wpAny (model PySem.Challenge.rw_pg0087_01.row.prog w) (ktrTop dp un gd cn cs L a ccd cl outer) (call (.ref 46) [.ref la, .str x tx]) Q E s := by
  k_fill
  intro w mean mg mb loose vs xs hxs la x tx dp un gd cn cs a ccd cl outer A₀ base h₀ L m news s Q E B F X N T hk nn hla hlen hdp hun hret
  refine wpAny_call ?_
  k_dflt (first | (refine' code_def ?k1 ?k2 ?k3 ?k4 ?k5 ?kA ?kF ?kK ?k6 ?k7 ?k8 ?k9 ?kB ?_ ?c2 ?c3 ?c4 ?c5; (case kA => exact rfl); (case kF => exact rfl); (case kK => assumption); (case k1 => k_asm); (case k2 => k_asm); (case k3 => k_asm); (case k4 => k_asm); (case k5 => k_asm); (case k6 => k_is); (case k7 => k_is); (case k8 => ktr_room); (case k9 => first | exact BindsTo.of_eq rfl | exact binds_K (by k_in) rfl (by k_is) rfl rfl rfl | (refine' kp_binds ?kx ?ke; (case kx => k_in); (case ke => exact fun _ => rfl))); (case c5 => decide); (case kB => exact locs rfl); (case c2 => exact rfl); (case c3 => exact rfl); (case c4 => exact rfl); k_whole) | (refine' code_defC ?k1 ?k2 ?k3 ?k4 ?k5 ?kA ?kF ?kK ?k6 ?k7 ?k8 ?k9 ?kB ?kD ?_ ?c2 ?c3 ?c4; (case kA => exact rfl); (case kF => exact rfl); (case kK => assumption); (case k1 => k_asm); (case k2 => k_asm); (case k3 => k_asm); (case k4 => k_asm); (case k5 => k_asm); (case k6 => k_is); (case k7 => k_is); (case k8 => ktr_room); (case k9 => first | exact BindsTo.of_eq rfl | exact binds_K (by k_in) rfl (by k_is) rfl rfl rfl | (refine' kp_binds ?kx ?ke; (case kx => k_in); (case ke => exact fun _ => rfl))); (case kB => exact rfl); (case kD => decide +kernel); (case c2 => exact rfl); (case c3 => exact rfl); (case c4 => exact rfl); k_whole))
  intro g1 L1 h1 FG1 F1 N1 B1 X1 T1
  (try dsimp only); (try k_lift B1); (try k_fold)
  k_steps
  have hvs : vs.length = xs.length := hxs.length
  refine len_list (N1.isList hla) (by simp; omega) ?_
  k_steps
  rename News _ _ _ _ => N2
  rename Fr _ _ _ _ => F2
  refine Halt.go (myWhile (BisInv xs x tx la g1 L1 news s) ?_ (xs.length - 0) (BisInv.mk' F2 N2 rfl rfl rfl rfl (lo := 0) (hi := xs.length) rfl (by simp [hvs]) (Nat.zero_le _) (Nat.le_refl _) ?_))
  · rintro n s' E' ⟨h', tk, m', lo, hi, t1, t2, rfl, F3, N3, e1, e2, e3, e4, l1, l2, hb, rfl⟩
    have F4 := Fr.put F3 [(Str.ofString "a", _), (Str.ofString "x", _), (Str.ofString "lo", _), (Str.ofString "hi", _)] ⟨e1, e2, e3, e4, trivial⟩
    simp only [putM] at F4
    clear F3 F2 N2
    k_steps
    · rename News _ _ _ _ => N5
      have hlt : lo < hi := by omega
      obtain ⟨tm, hm⟩ := strs_at hxs ((lo + hi) / 2) (by omega)
      have hmid := mid_eq lo hi
      refine item_list (N5.isList hla) (x := .str (xs.getD ((lo + hi) / 2) default) tm) (by omega) (by omega) (by rw [hmid]; simpa only [Int.toNat_natCast, List.getElem?_toArray] using hm) ?_
      k_steps
      · rename News _ _ _ _ => N6
        rename Fr _ _ _ _ => F6
        rename _ < _ => hc
        refine ⟨_, ?_, BisInv.mk' F6 N6 rfl rfl rfl rfl rfl hmid (by omega) (by omega) fun f hf => ?_⟩
        · omega
        · rw [bisGo_fuel _ _ f (hi - lo) _ _ hf (by omega), ← hb (hi - lo + 1) (by omega)]; simp only [bisGo, if_pos hlt, if_pos hc]
      · rename News _ _ _ _ => N6
        rename Fr _ _ _ _ => F6
        rename ¬ _ < _ => hc
        refine ⟨_, ?_, BisInv.mk' (lo := (lo + hi) / 2 + 1) F6 N6 rfl rfl rfl rfl (by rw [hmid]; rfl) rfl (by omega) (by omega) fun f hf => ?_⟩
        · omega
        · rw [bisGo_fuel _ _ f (hi - lo) _ _ hf (by omega), ← hb (hi - lo + 1) (by omega)]; simp only [bisGo, if_pos hlt, if_neg hc]
    · have e : lo = bisR xs x := by rw [← hb 0 (by omega)]; rfl
      rw [e]
      exact hret _ _ _ (by assumption) (by assumption)
  · intro f hf
    exact bisGo_fuel _ _ _ _ _ _ (by omega) (by omega)
end
section
open PySem PySem.W PyProof.Rows PySem.Calls PySem.Spec
open PySem.W.X (SegX)
namespace Mine
section
variable {prog : Program} {w : World} {A : Around} {c : Code} {fs : List Frame} {s : Shared} {P : End → Shared → Prop} {env : Env} {K : Flow → Sem Fin} {H : Value → Sem Fin} {gd : Bool → Bool} {lv : List Value → List Value}

theorem x_wrap {α : Type} {m : Sem α} {K : α → Sem Fin} {H : Value → Sem Fin} {gd : Bool → Bool} {lv : List Value → List Value}
    (h : wpAny (model prog w) (A.over c fs) m (fun a s' => SegX (model prog w) A c (K a) fs s' P) (fun x s' => SegX (model prog w) A c (H x) fs s' P) s) :
    SegX (model prog w) A c (m.wrap K H gd lv) fs s P := by
  rintro Γ p rfl hΓ
  obtain ⟨e, s', hr, hq⟩ := runs_wrap_of_wp (Φ := fun e s' => e.quiet = true ∧ P e s') K H gd lv m (h (Γ.over fs) p (hΓ.over fs)) (fun a p' s' h' => h' Γ p' rfl hΓ) (fun x p' s' h' => h' Γ p' rfl hΓ)
  exact ⟨e, s', hr, hq⟩
theorem x_wrapF {α : Type} {m : Sem α} {K : α → Sem Fin} {H : Value → Sem Fin} {gd : Bool → Bool} {lv : List Value → List Value}
    (h : wpAny (model prog w) (A.over c fs) m (fun a s' => SegX (model prog w) A c (K a) fs s' P) (fun _ _ => False) s) :
    SegX (model prog w) A c (m.wrap K H gd lv) fs s P := x_wrap (wpAny_mono h (fun _ _ x => x) fun _ _ x => x.elim)
theorem x_bind {α : Type} {m : Sem α} {K : α → Sem Fin}
    (h : wpAny (model prog w) (A.over c fs) m (fun a s' => SegX (model prog w) A c (K a) fs s' P) (fun _ _ => False) s) :
    SegX (model prog w) A c (m >>= K) fs s P := by
  rw [Sem.bind_eq_wrap']; exact x_wrapF h
theorem x_at {p' : Pos} {k : Unit → Sem Fin} (h : SegX (model prog w) A c (k ()) fs s P) : SegX (model prog w) A c (.at p' k) fs s P :=
  x_wrap (m := standAt p') (K := k) (H := .raise) (gd := id) (lv := id) (wpAny_standAt h)
theorem x_point {l : List Value} {k : Unit → Sem Fin} (h : SegX (model prog w) A c (k ()) fs s P) : SegX (model prog w) A c (.point l k) fs s P :=
  x_wrap (m := point) (K := k) (H := .raise) (gd := id) (lv := fun _ => l) (wpAny_point h)

theorem x_execs_cons {st : Stmt} {rest : List Stmt}
    (h : SegX (model prog w) A c ((exec st env).wrap (fun f => match f with | .next => (execs rest env).wrap K H gd lv | f => K f) H gd lv) fs s P) :
    SegX (model prog w) A c ((execs (st :: rest) env).wrap K H gd lv) fs s P := by rw [execs_cons_wrap]; exact h
theorem x_execs_nil (h : SegX (model prog w) A c (K .next) fs s P) : SegX (model prog w) A c ((execs [] env).wrap K H gd lv) fs s P := h
theorem x_If {test : Expr} {body orelse : List Stmt} {pos : Pos}
    (h : wpAny (model prog w) (A.over c fs) (isTrue test env (eval test env)) (fun b s' => SegX (model prog w) A c ((execs (if b then body else orelse) env).wrap K H gd lv) fs s' P) (fun _ _ => False) s) :
    SegX (model prog w) A c ((exec (.If test body orelse pos) env).wrap K H gd lv) fs s P := by
  rw [exec_If]
  refine x_at ?_
  show SegX _ A c ((isTrue test env (eval test env) >>= fun b => if b = true then execs body env else execs orelse env).wrap K H gd lv) fs s P
  rw [Sem.bind_eq_wrap', Sem.wrap_wrap]
  refine x_wrapF (wpAny_mono h (fun b s' hb => ?_) fun _ _ x => x)
  cases b <;> exact hb
theorem x_yield {e : Expr} {ypos pos : Pos} (hfs : splitAtGen fs = none) (hgd : gd false = false) (hfg : fs.any Frame.guarded = false)
    (h : wpAny (model prog w) (A.over c fs) (eval e env) (fun v s' => ∀ l k p, k (.send .none) = K .next → P (.susp v false l k c p fs) s') (fun _ _ => False) s)
    (hco : env.scope.isCoroutine = false := by rfl) (hi : interactive env = false := by rfl) :
    SegX (model prog w) A c ((exec (.Expr (.Yield (some e) ypos) pos) env).wrap K H gd lv) fs s P := by
  rw [exec_Expr env _ pos hi rfl]
  show SegX _ A c (.at pos fun _ => ((eval e env >>= fun v => (standAt ypos >>= fun _ => yieldOut env v)) >>= fun x =>
    dropValue (.Yield (some e) ypos) pos x).wrap K H gd lv) fs s P
  have hy : ∀ v, yieldOut env v = yieldValue v := fun v => by simp only [yieldOut, hco, Bool.false_eq_true, if_false]
  simp only [hy]
  refine x_at ?_
  rw [Sem.bind_eq_wrap', Sem.bind_eq_wrap', Sem.wrap_wrap, Sem.wrap_wrap]
  refine x_wrapF (wpAny_mono h (fun v s' h' => ?_) fun _ _ x => x)
  refine x_at ?_
  rintro Γ p rfl _
  refine ⟨_, s', Runs.yield' fs hfs, ?_, ?_⟩
  · simp [End.quiet, hgd, hfg]
  · show P (End.susp v (gd false) _ _ _ _ _) _
    rw [hgd]; exact h' _ _ _ rfl

/-- the frame that a for-statement's loop stands upon -/
def forRet (env : Env) (K : Flow → Sem Fin) (H : Value → Sem Fin) (gd : Bool → Bool) (lv : List Value → List Value) (c : Code) (p : Pos) : Frame :=
  .ret (fun r => ((match r with | .ok f => (.pure f : Sem Flow) | .error e => .raise e).onRaise fun (x : Value) => do
        if (← field x 1) == Value.none then unsupported "frame.own-activation:exception-without-traceback"
        setFlight x env.frame).wrap K H gd lv) none (gd false) (lv []) c p []
theorem x_For {target iter : Expr} {body : List Stmt} {pos : Pos}
    (h : wpAny (model prog w) (A.over c fs) (eval iter env) (fun x s₁ => wpAny (model prog w) (A.over c fs) (pyIter x) (fun it s₂ =>
      ∀ p, SegX (model prog w) A (.forLoop target it body [] env) (denote table (.forLoop target it body [] env)) (forRet env K H gd lv c p :: fs) s₂ P) (fun _ _ => False) s₁) (fun _ _ => False) s)
    (hs : ∀ x, foldedSetIterable iter env x = pure x := by intro _; rfl) :
    SegX (model prog w) A c ((exec (.For target iter body [] pos) env).wrap K H gd lv) fs s P := by
  rw [exec_For]
  refine x_at ?_
  show SegX _ A c (Sem.wrap K H gd lv (eval iter env >>= fun y => foldedSetIterable iter env y >>= fun x => standAt iter.pos >>= fun _ => holding [x] (pyIter x) >>= fun it => runOwn (.forLoop target it body [] env) env)) fs s P
  rw [Sem.bind_eq_wrap', Sem.wrap_wrap]
  refine x_wrapF (wpAny_mono h (fun v s₁ h₁ => ?_) fun _ _ x => x)
  rw [hs]
  show SegX _ A c (Sem.wrap K H gd lv (standAt iter.pos >>= fun _ => holding [v] (pyIter v) >>= fun it => runOwn (.forLoop target it body [] env) env)) fs s₁ P
  refine x_at ?_
  show SegX _ A c (Sem.wrap K H gd lv (holding [v] (pyIter v) >>= fun it => runOwn (.forLoop target it body [] env) env)) fs s₁ P
  rw [Sem.bind_eq_wrap', Sem.wrap_wrap]
  refine x_wrapF (wpAny_holding (wpAny_mono h₁ (fun it s₂ h₂ => ?_) fun _ _ x => x))
  exact PySem.W.X.s_call prog w A c fs P s₂ _ _ _ _ _ h₂
theorem x_forLoop {target : Expr} {it : Value} {body : List Stmt}
    (h : wpAny (model prog w) (A.over (.forLoop target it body [] env) fs) (pyNext it) (fun r s₁ => match r with
      | none => SegX (model prog w) A (.block [] env) (.pure (.done .next)) fs s₁ P
      | some v => wpAny (model prog w) (A.over (.forLoop target it body [] env) fs) (letOwnedTupleGo target it v) (fun _ s₂ => wpAny (model prog w) (A.over (.forLoop target it body [] env) fs) (assign target env v) (fun _ s₃ =>
          SegX (model prog w) A (.forLoop target it body [] env) ((execs body env).wrap (fun f => match f with
            | .next | .cont => .pure (.again (.forLoop target it body [] env))
            | .brk => .pure (.done .next)
            | .ret v => .pure (.done (.ret v))) (fun e => (do noteFrame e env; theTreesLotGoes e : Sem Unit).bind fun _ => .raise e) id id) fs s₃ P) (fun _ _ => False) s₂) (fun _ _ => False) s₁) (fun _ _ => False) s) :
    SegX (model prog w) A (.forLoop target it body [] env) (denote table (.forLoop target it body [] env)) fs s P := by
  show SegX _ A _ ((forTurn target it body [] env).onRaise (fun x => do noteFrame x env; theTreesLotGoes x)) fs s P
  unfold forTurn
  rw [Sem.onRaise_eq_wrap]
  refine x_at ?_
  show SegX _ A _ (Sem.wrap _ _ _ _ ((pyNext it).onRaise (fun _ => standAt { target.pos with line := 0 }) >>= _)) fs s P
  rw [Sem.bind_eq_wrap', Sem.wrap_wrap, Sem.onRaise_eq_wrap, Sem.wrap_wrap]
  refine x_wrapF (wpAny_mono h (fun r s₁ h₁ => ?_) fun _ _ x => x)
  cases r with
  | none => exact PySem.W.X.s_again prog w A _ fs P s₁ _ rfl h₁
  | some v =>
    show SegX _ A _ (Sem.wrap _ _ _ _ (letOwnedTupleGo target it v >>= fun _ => assign target env v >>= fun _ => execs body env >>= _)) fs s₁ P
    rw [Sem.bind_eq_wrap', Sem.wrap_wrap]
    refine x_wrapF (wpAny_mono h₁ (fun _ s₂ h₂ => ?_) fun _ _ x => x)
    rw [Sem.bind_eq_wrap', Sem.wrap_wrap]
    refine x_wrapF (wpAny_mono h₂ (fun _ s₃ h₃ => ?_) fun _ _ x => x)
    rw [Sem.bind_eq_wrap', Sem.wrap_wrap]
    refine PySem.W.X.s_eq prog w A _ fs P s₃ _ _ (Sem.wrap_congr (execs body env) id id (fun f => ?_) (fun e => rfl)) h₃
    cases f <;> rfl
/-- the loop is through: the frame below goes on -/
theorem x_loopEnd {p : Pos} {c' : Code} (h : SegX (model prog w) A c (K .next) fs s P) :
    SegX (model prog w) A c' (.pure (.done .next)) (forRet env K H gd lv c p :: fs) s P :=
  PySem.W.X.s_pop prog w A c' fs P s (.ok .next) _ rfl _ _ _ _ _ _ _ h
theorem x_func {body : List Stmt} {env : Env}
    (h : SegX (model prog w) A (.func body env) ((execs body env).wrap (fun f => .pure (.done (.ret (match f with | .ret v => v | _ => .none))))
      (fun e => (leaving env e).wrap (fun _ => .raise e) .raise id id) id id) fs s P) :
    SegX (model prog w) A (.func body env) (denote table (.func body env)) fs s P := by
  show SegX _ A _ (.point [] fun _ => ((execs body env).onRaise (leaving env)) >>= _) fs s P
  refine x_point ?_
  rw [Sem.onRaise_eq_wrap, Sem.bind_eq_wrap', Sem.wrap_wrap]
  rw [Sem.wrap_congr (execs body env) _ _ (K' := fun f => .pure (.done (.ret (match f with | .ret v => v | _ => .none))))
    (H' := fun e => (leaving env e).wrap (fun _ => .raise e) .raise id id) (fun f => by cases f <;> rfl)
    (fun e => by rw [Sem.bind_eq_wrap, Sem.wrap_wrap]; rfl)]
  exact h
theorem x_funcEnd {v : Value} (h : P (.ret (.ok (.ret v))) s) : SegX (model prog w) A c (.pure (.done (.ret v))) [] s P :=
  PySem.W.X.s_end prog w A c P s (.ok (.ret v)) _ rfl h
end
end Mine
end
section
open PySem PySem.W PyProof.Rows PySem.Calls PySem.Spec
open PySem.W.X (SegX)
namespace Mine
section
variable {prog : Program} {w : World} {A : Around} {E : Value → Shared → Prop} {s : Shared} {g : Heap} {L : Addr} {m : Str → Option Value}
/-- a pair of names set from a tuple -/
theorem assign_pair {env : Env} {T : Addr} {v1 v2 : Value} {a b : Str} {p1 p2 p3 : Pos} {k : Nat} {Q : Unit → Shared → Prop} (hh : A.handled = none) (ht : s.heap.IsTuple T #[v1, v2]) (F : Fr g L s.heap m)
    (hL : env.locals = L) (ha : env.kindOf a = some .local) (hb : env.kindOf b = some .local)
    (hp : (env.scope.kind == .class || (env.scope.kind == .module && env.locals != env.globals)) = false)
    (h : ∀ h' tk', Fr g L h' (fun y => if y = b then some v2 else if y = a then some v1 else m y) → (∀ c o, c ≠ L → s.heap.get? c = some o → h'.get? c = some o) → Q () { s with heap := h', toks := tk' }) :
    wpAny (model prog w) A (assign (.Tuple [.Name a p1, .Name b p2] k p3) env (.ref T)) Q E s := by
  subst hL
  refine wpAny_assign_Tuple hh ht rfl rfl fun h₁ hx => ?_
  have hLs : env.locals < s.heap.objs.size := F.ns.lt
  have keep1 : ∀ c o, s.heap.get? c = some o → h₁.get? c = some o := fun c o e => hx c o (Nat.ne_of_lt (Heap.lt_size e)) e
  have F1 : Fr g env.locals h₁ m := ⟨F.ns.at' fun o e => keep1 _ o e, fun b o e => keep1 b o (F.keep b o e), F.above⟩
  show wpAny _ A (do holding [v2] (assign (.Name a p1) env v1); do holding [] (assign (.Name b p2) env v2); pure ()) _ _ _
  refine wpAny_bind (wpAny_holding (wpAny_assign_Name (wpAny_storeName_local ha F1.ns (fun h₄ hn₄ hs₄ => ?_) hp)))
  refine wpAny_bind (wpAny_holding (wpAny_assign_Name (wpAny_storeName_local hb hn₄ (fun h₅ hn₅ hs₅ => wpAny_pure ?_) hp)))
  have F2 := (F1.set hn₄ hs₄).set hn₅ hs₅
  exact h h₅ _ F2 (fun c o hc e => (hs₅.2 c hc).trans ((hs₄.2 c hc).trans (keep1 c o e)))
end

/-- what the generator hands out for the signs cs from place i on -/
def escI : List Nat → Nat → Bool → Nat → List (Nat × Str)
  | [], _, false, _ => []
  | [], _, true, l => [(l, ⟨#[92]⟩)]
  | c :: cs, i, true, _ => (i, ⟨#[92, c]⟩) :: escI cs (i + 1) false i
  | c :: cs, i, false, _ => if c = 92 then escI cs (i + 1) true i else (i, ⟨#[c]⟩) :: escI cs (i + 1) false i

def tupO (v1 v2 : Value) : Obj := { cls := .type "tuple", data := .seq #[v1, v2] }

def KeepBut (wr : List Addr) (h h' : Heap) : Prop := ∀ b o, b ∉ wr → h.get? b = some o → h'.get? b = some o
theorem KeepBut.trans {wr : List Addr} {h h' h'' : Heap} (x : KeepBut wr h h') (y : KeepBut wr h' h'') : KeepBut wr h h'' := fun b o hb e => y b o hb (x b o hb e)
theorem KeepBut.refl {wr : List Addr} {h : Heap} : KeepBut wr h h := fun _ _ _ e => e

/-- the generator stands so that the items come -/
def GenOk (prog : Program) (w : World) (A : Around) (wr : List Addr) : List (Nat × Str) → GenState → Heap → Prop
  | items, gs, h => ∃ k l c p fs cl, gs = .suspended k l c p fs cl ∧ ∀ s'' : Shared, (∀ b ∈ wr, ∀ o, h.get? b = some o → s''.heap.get? b = some o) →
      SegX (model prog w) A c (k (.send .none)) fs s'' (fun e s₁ => ∃ h₁ tk₁, s₁ = { s'' with heap := h₁, toks := tk₁ } ∧ KeepBut wr s''.heap h₁ ∧
        match items with
        | [] => e = .ret (.ok (.ret .none))
        | (p, u) :: rest => ∃ tp t1 t2 g l k c p' fs, e = .susp (.ref tp) g l k c p' fs ∧ h₁.get? tp = some (tupO (.int (p : Nat) t1) (.str u t2)) ∧ GenOk prog w A wr rest e.genState h₁)
/-- what a segment of the generator ends in, from the state s'' on -/
def GenPost (prog : Program) (w : World) (A : Around) (wr : List Addr) (items : List (Nat × Str)) (s'' : Shared) (e : End) (s₁ : Shared) : Prop :=
  ∃ h₁ tk₁, s₁ = { s'' with heap := h₁, toks := tk₁ } ∧ KeepBut wr s''.heap h₁ ∧
        match items with
        | [] => e = .ret (.ok (.ret .none))
        | (p, u) :: rest => ∃ tp t1 t2 g l k c p' fs, e = .susp (.ref tp) g l k c p' fs ∧ h₁.get? tp = some (tupO (.int (p : Nat) t1) (.str u t2)) ∧ GenOk prog w A wr rest e.genState h₁
theorem GenOk.of {prog : Program} {w : World} {A : Around} {wr : List Addr} {items : List (Nat × Str)} {gs : GenState} {h : Heap} {k : Resume → Sem Fin} {l : List Value} {c : Code} {p : Pos} {fs : List Frame} {cl : Bool} (e : gs = .suspended k l c p fs cl)
    (H : ∀ s'' : Shared, (∀ b ∈ wr, ∀ o, h.get? b = some o → s''.heap.get? b = some o) → SegX (model prog w) A c (k (.send .none)) fs s'' (GenPost prog w A wr items s'')) : GenOk prog w A wr items gs h := by
  cases items with
  | nil => exact ⟨k, l, c, p, fs, cl, e, H⟩
  | cons q r => exact ⟨k, l, c, p, fs, cl, e, H⟩
theorem GenOk.out {prog : Program} {w : World} {A : Around} {wr : List Addr} {items : List (Nat × Str)} {gs : GenState} {h : Heap} (x : GenOk prog w A wr items gs h) : ∃ k l c p fs cl, gs = .suspended k l c p fs cl ∧ ∀ s'' : Shared, (∀ b ∈ wr, ∀ o, h.get? b = some o → s''.heap.get? b = some o) →
      SegX (model prog w) A c (k (.send .none)) fs s'' (GenPost prog w A wr items s'') := by
  cases items with
  | nil => exact x
  | cons q r => exact x
end Mine
end
section
open PySem PySem.W PyProof.Rows PySem.Calls PySem.Spec
open PySem.W.X (SegX)
namespace Mine
section
variable {prog : Program} {w : World} {A : Around} {s : Shared} {h₀ : Heap} {L : Addr} {m : Str → Option Value} {K : Frag}
theorem code_gen {R : Result → Shared → Prop} {name qual : Str} {params : Arguments} {body : List Stmt} {scope : Scope} {dV kV doc pm cdv ct oc : Value} {an od : Option Addr} {osl : Array (Option Value)} {f : Addr} {args : Args} {binds : List (Str × Value)}
    (F : Fr h₀ L s.heap m) (X₀ : K.In h₀) (hlim : h₀.NoLimit)
    (ho : K.lookup f = some ⟨oc, od, .func (fnOf name qual params body scope dV kV doc pm an cdv ct), osl⟩) (hcd : codeIn K cdv qual = true) (hroom : A.depth < recursionLimit)
    (hbind : BindsTo s (fnOf name qual params body scope dV kV doc pm an cdv ct) args binds) (hloc : ∀ y ∈ binds, scope.names.lookup y.1 = some .local)
    (h : ∀ h₁ tk, h₁.Ns s.heap.objs.size (fun y => binds.reverse.lookup y) → h₁.IsGen (s.heap.objs.size + 1) s.gens.size → (∀ b o, s.heap.get? b = some o → h₁.get? b = some o) → h₁.objs.size = s.heap.objs.size + 2 →
      R (.ok (.ret (.ref (s.heap.objs.size + 1)))) { s with gens := s.gens.push (.fresh (.func body (envOf qual scope s.heap.objs.size f cdv))), toks := tk, heap := h₁ })
    (hco : scope.isCoroutine = false) (hgen : scope.isGenerator = true) (hk : scope.kind = .function)
    (hcell : ∀ x ∈ scope.names, x.2 ≠ .cell) : codeAny (model prog w) A (.call (.ref f) args) R s := by
  have X := X₀.keeps F.keep
  refine codeAny_call_generator hroom (X _ _ ho) rfl hco hgen rfl (codeRec_of X hcd) ?_
  refine hbind _ _ _ _ ?_
  refine wpAny_newFunctionEnv hcell hloc (fun h₁ hns hsb => ⟨(hlim.keeps F.keep).fresh _ hsb, ?_⟩) hk
  have hsz : h₁.objs.size = s.heap.objs.size + 1 := by rw [hsb.1, Heap.size_push]
  have keep : ∀ b o, s.heap.get? b = some o → h₁.get? b = some o := fun b o e => hsb.extBut b o (Nat.ne_of_lt (Heap.lt_size e)) (Heap.get?_push_of_some _ e)
  have z := h (h₁.push { cls := .type "generator", data := .fields #[.int s.gens.size 0, .str name (s.toks + binds.length), .str qual (s.toks + binds.length + 1)] }) (s.toks + binds.length + 1 + 1) (hns.push _)
    (by
      have := Heap.get?_push_size h₁ (o := { cls := .type "generator", data := .fields #[.int s.gens.size 0, .str name (s.toks + binds.length), .str qual (s.toks + binds.length + 1)] }) rfl
      rw [hsz] at this
      exact ⟨_, _, _, this, rfl, rfl, rfl⟩) (fun b o e => Heap.get?_push_of_some _ (keep b o e)) (by rw [Heap.size_push, hsz])
  dsimp only
  rw [hsz]
  exact z
end
theorem stS {M : Model} {A : Around} {E : Value → Shared → Prop} {s : Shared} {name : Str} {scope : Scope} {L a : Addr} {cd : Value} {h₀ : Heap} {m : Str → Option Value} {x : Str} {v : Value} {Q : Unit → Shared → Prop} (F : Fr h₀ L s.heap m)
    (h : ∀ h', Fr h₀ L h' (fun y => if y = x then some v else m y) → Heap.SameBut L s.heap h' → Q () { s with heap := h', toks := s.toks + 1 })
    (hk : scope.kind = .function) (hl : (envOf name scope L a cd).kindOf x = some .local) :
    wpAny M A (storeName (envOf name scope L a cd) x v) Q E s :=
  wpAny_storeName_local hl F.ns (fun h' hn hs => h h' (F.set hn hs) hs)
    (by show (scope.kind == .class || (scope.kind == .module && L != mainGlobals)) = false; rw [hk]; rfl)
/-- the state moved from s₀ to s, nothing but wr's objects changed -/
def RelS (wr : List Addr) (s₀ s : Shared) : Prop := ∃ h tk, s = { s₀ with heap := h, toks := tk } ∧ KeepBut wr s₀.heap h
section
variable {prog : Program} {w : World} {A : Around} {FL : Code} {fs : List Frame} {wr : List Addr}
theorem loop_induct (J : List Nat → Nat → Bool → Nat → Shared → Prop)
    (step : ∀ cs i esc l s₀ s, J cs i esc l s → RelS wr s₀ s → (∀ cs', cs'.length < cs.length → ∀ i' esc' l' s₀' s', J cs' i' esc' l' s' → RelS wr s₀' s' → SegX (model prog w) A FL (denote table FL) fs s' (GenPost prog w A wr (escI cs' i' esc' l') s₀')) →
      SegX (model prog w) A FL (denote table FL) fs s (GenPost prog w A wr (escI cs i esc l) s₀)) :
    ∀ cs i esc l s₀ s, J cs i esc l s → RelS wr s₀ s → SegX (model prog w) A FL (denote table FL) fs s (GenPost prog w A wr (escI cs i esc l) s₀) := by
  intro cs
  induction hn : cs.length using Nat.strongRecOn generalizing cs with
  | ind n ih =>
    intro i esc l s₀ s hJ hR
    exact step cs i esc l s₀ s hJ hR fun cs' hlt i' esc' l' s₀' s' hJ' hR' => ih cs'.length (hn ▸ hlt) cs' rfl i' esc' l' s₀' s' hJ' hR'
end

def noHeap : Heap := { objs := #[] }
theorem Fr.bare {h : Heap} {L : Addr} {m : Str → Option Value} (hn : h.Ns L m) : Fr noHeap L h m :=
  ⟨hn, fun b o e => absurd e (by
    have : noHeap.get? b = none := by unfold noHeap Heap.get?; simp
    rw [this]; intro q; cases q), Nat.zero_le _⟩
theorem noFrag : Frag.In [] noHeap := fun _ _ e => by cases e
/-- how the generator's own objects stand at the loop's head -/
structure GJ (x : Str) (t : Tok) (L2 e it : Addr) (cs : List Nat) (i : Nat) (esc : Bool) (l : Nat) (s : Shared) : Prop where
  cs : x.cps.toList.drop i = cs
  le : i ≤ x.cps.size
  ns : ∃ m tl, s.heap.Ns L2 m ∧ m (Str.ofString "escape") = some (.bool esc) ∧ m (Str.ofString "pos") = some (.int (l : Nat) tl)
  en : ∃ old, IsEnum s.heap e it i old
  si : s.heap.IsStrIter it "str_ascii_iterator" x t i
theorem GJ.agree {x : Str} {t : Tok} {L2 e it : Addr} {cs : List Nat} {i : Nat} {esc : Bool} {l : Nat} {s s' : Shared} (J : GJ x t L2 e it cs i esc l s) (hk : ∀ b ∈ [L2, e, it], ∀ o, s.heap.get? b = some o → s'.heap.get? b = some o) : GJ x t L2 e it cs i esc l s' where
  cs := J.cs
  le := J.le
  ns := let ⟨m, tl, hn, r⟩ := J.ns; ⟨m, tl, hn.at' fun o e => hk _ (by simp) o e, r⟩
  en := let ⟨old, h⟩ := J.en; ⟨old, hk _ (by simp) _ h⟩
  si := let ⟨o, ho, r⟩ := J.si; ⟨o, hk _ (by simp) o ho, r⟩
theorem over_for {A : Around} (hA : A.handled = none) (c c' : Code) (env : Env) (K : Flow → Sem Fin) (H : Value → Sem Fin) (gd : Bool → Bool) (lv : List Value → List Value) (p : Pos) : (A.over c [forRet env K H gd lv c' p]).handled = none := by
  simp [Around.over, marksOver, forRet, Frame.marks, hA, markOver]
theorem over_for1 {A : Around} (hA : A.handled = none) (c c' : Code) (env : Env) (K : Flow → Sem Fin) (H : Value → Sem Fin) (gd : Bool → Bool) (lv : List Value → List Value) (p : Pos) : (A.over c [forRet env K H gd lv c' p]).in1.handled = none := over_for hA c c' env K H gd lv p
theorem over_nil {A : Around} (hA : A.handled = none) (c : Code) : (A.over c []).handled = none := by
  simp [Around.over, marksOver, hA]
theorem bsl : Str.ofString "\\" = (⟨#[92]⟩ : Str) := by decide +kernel
theorem one_eq (c : Nat) : ((⟨#[c]⟩ : Str) == Str.ofString "\\") = decide (c = 92) := by
  rw [bsl]
  by_cases h : c = 92
  · subst h; decide
  · rw [decide_eq_false h, beq_eq_false_iff_ne]
    intro e
    have := congrArg (fun y : Str => y.cps.toList) e
    simp at this
    exact h this
theorem bsl_app (c : Nat) : Str.ofString "\\" ++ (⟨#[c]⟩ : Str) = (⟨#[92, c]⟩ : Str) := by rw [bsl]; rfl
end Mine
end
section
theorem fresh_M6 : True := by
  w_top off
  trivial
open PySem PySem.W PyProof.Rows PySem.Calls PySem.Spec
open PySem.W.X (SegX)
namespace Mine
def GenNew (prog : Program) (w : World) (A : Around) (L2 : Addr) (items : List (Nat × Str)) (h₀ : Heap) (gs : GenState) (h : Heap) : Prop :=
  ∃ c, gs = .fresh c ∧ ∀ s'' : Shared, (∀ o, h.get? L2 = some o → s''.heap.get? L2 = some o) → (∀ b o, h₀.get? b = some o → s''.heap.get? b = some o) →
    SegX (model prog w) A c (denote table c) [] s'' (GenPost prog w A [L2, s''.heap.objs.size + 1, s''.heap.objs.size] items s'')
end Mine
open Mine
local macro_rules | `(tactic| walk_at "my_unused") => `(tactic| skip)
local macro_rules | `(tactic| walk_at "storeName") => `(tactic| refine Mine.Halt.mk ?_)
local macro_rules | `(tactic| walk_at "newTuple") => `(tactic| refine Mine.Halt.mk ?_)
set_option maxRecDepth 100000 in
set_option maxHeartbeats 8000000 in
theorem gen_call {w : World} {mean : ExcName → Option Value} {mg mb : Str → Option Value} {loose : List Str} {A : Around} {h₀ : Heap} {L : Addr} {m : Str → Option Value} {s : Shared} {Q E : Value → Shared → Prop}
   (F : Fr h₀ L s.heap m) (X : (hd.heap_39 w.params).In h₀) (T : Top topProg loose mean mg mb h₀) (x : Str) (t : Tok) (hx : x.cps.all (· < 128) = true) (hroom : A.depth < recursionLimit)
   (h : ∀ gs h₁ tk, h₁.IsGen (s.heap.objs.size + 1) s.gens.size → (∀ b o, s.heap.get? b = some o → h₁.get? b = some o) → h₁.objs.size = s.heap.objs.size + 2 → (∃ o, h₁.get? s.heap.objs.size = some o) →
      (∀ A' : Around, A'.handled = none → GenNew PySem.Challenge.rw_pg0087_01.row.prog w A' s.heap.objs.size (escI x.cps.toList 0 false 0) h₀ gs h₁) →
      Q (.ref (s.heap.objs.size + 1)) { s with gens := s.gens.push gs, toks := tk, heap := h₁ }) :
   wpAny (model PySem.Challenge.rw_pg0087_01.row.prog w) A (call (.ref 21) [.str x t]) Q E s := by
  revert X
  k_fill
  intro X
  refine wpAny_call ?_
  k_dflt (refine' code_gen F X T.nolimit ?k6 ?k7 hroom ?k9 ?kB ?_ ?c2 ?c3 ?c4 ?c5; (case k6 => k_is); (case k7 => k_is); (case k9 => exact BindsTo.of_eq rfl); (case c5 => decide); (case kB => exact locs rfl); (case c2 => exact rfl); (case c3 => exact rfl); (case c4 => exact rfl); k_whole)
  intro h₁ tk hns hg hkp hsz
  refine h _ _ _ hg hkp hsz (let ⟨o, _, _, e, _⟩ := hns; ⟨o, e⟩) fun A' hA' => ⟨_, rfl, fun s'' hL2 hb => ?_⟩
  have F2 : Fr h₀ s.heap.objs.size s''.heap _ := ⟨hns.at' hL2, hb, Nat.le_of_lt (Nat.lt_of_le_of_lt F.above F.ns.lt)⟩
  have hL2' : s.heap.objs.size < s''.heap.objs.size := F2.ns.lt
  clear h hg hkp hsz hns hL2 F hb
  revert F2 hL2'
  generalize s.heap.objs.size = L2
  intro F2 hL2
  clear hroom tk
  have N2 : News h₀ L2 s''.heap [] := News.nil
  refine x_func (x_execs_cons (x_wrapF ?_))
  k_steps
  refine Halt.go (stS F2 (fun h2 F3 S3 => ?_) rfl rfl)
  clear F2 N2
  try dsimp only
  refine x_execs_cons (x_wrapF ?_)
  k_steps
  refine Halt.go (stS F3 (fun h3 F4 S4 => ?_) rfl rfl)
  clear F3
  try dsimp only
  refine x_execs_cons (x_For ?_)
  k_steps
  refine call_enumerate_str fun h4 he4 hi4 hz4 kp4 => ?_
  have hz3 : h3.objs.size = s''.heap.objs.size := by rw [S4.1, S3.1]
  dsimp only at he4 hi4 hz4 kp4
  refine wpAny_pyIter_enum he4 fun p => ?_
  try dsimp only
  rw [hz3] at he4 hi4 hz4 ⊢
  have hty : strIterType x = "str_ascii_iterator" := by unfold strIterType; rw [if_pos hx]
  rw [hty] at hi4
  have hkeep : ∀ b o, b ≠ L2 → s''.heap.get? b = some o → h4.get? b = some o := fun b o hb' e => kp4 b o ((S4.2 b hb').trans ((S3.2 b hb').trans e))
  have hJ : ∀ tk, GJ x t L2 (s''.heap.objs.size + 1) s''.heap.objs.size x.cps.toList 0 false 0 { s'' with heap := h4, toks := tk } := fun tk =>
    ⟨rfl, Nat.zero_le _, ⟨_, _, F4.ns.at' (fun o e => kp4 _ o e), rfl, rfl⟩, ⟨_, he4⟩, hi4⟩
  have hR : ∀ tk, RelS [L2, s''.heap.objs.size + 1, s''.heap.objs.size] s'' { s'' with heap := h4, toks := tk } := fun tk => ⟨h4, tk, rfl, fun b o hb' e => hkeep b o (fun q => hb' (by simp [q])) e⟩
  refine loop_induct (GJ x t L2 (s''.heap.objs.size + 1) s''.heap.objs.size) ?_ _ _ _ _ _ _ (hJ _) (hR _)
  have hne1 : L2 ≠ s''.heap.objs.size + 1 := by omega
  have hne2 : L2 ≠ s''.heap.objs.size := by omega
  have hne3 : s''.heap.objs.size + 1 ≠ s''.heap.objs.size := by omega
  clear hJ hR hkeep hty kp4 hz4 hi4 he4 F4 S4 S3 hz3 h3 h2 hL2 X T
  revert hne1 hne2 hne3
  generalize s''.heap.objs.size + 1 = e
  generalize s''.heap.objs.size = it
  intro hne1 hne2 hne3
  clear s''
  intro cs i esc l s₀ s J R IH
  have X0 := noFrag
  refine x_forLoop ?_
  obtain ⟨old, hen⟩ := J.en
  obtain ⟨m, tl, hns, hm1, hm2⟩ := J.ns
  cases cs with
  | nil =>
    have hi : i = x.cps.size := by
      have := J.cs
      have h2 := J.le
      rw [List.drop_eq_nil_iff] at this
      simp at this
      omega
    subst hi
    refine wpAny_pyNext_enum_endD (fp := [it]) (n := x.cps.size) (P := fun i v => ∃ c u, x.cps[i]? = some c ∧ v = .str ⟨#[c]⟩ u) (St := fun i h => h.IsStrIter it "str_ascii_iterator" x t i) (Draws.strAscii (over_for1 hA' _ _ _ _ _ _ _ _) it x t) hen J.si fun h' hk' => ?_
    try dsimp only
    refine x_loopEnd ?_
    try dsimp only
    refine x_execs_cons (x_If ?_)
    have hns' := hns.extBut hk' hne2
    have F5 := Fr.put (Fr.bare hns') [(Str.ofString "escape", _), (Str.ofString "pos", _)] ⟨hm1, hm2, trivial⟩
    simp only [putM] at F5
    obtain ⟨h, tk, rfl, hkp⟩ := R
    have hkp' : KeepBut [L2, e, it] s₀.heap h' := hkp.trans fun b o hb e => hk' b o (fun q => hb (by simp [q])) e
    k_steps
    cases esc with
    | false =>
      simp only [Bool.false_eq_true, if_false]
      refine x_execs_nil ?_
      try dsimp only
      refine x_execs_nil ?_
      try dsimp only
      exact x_funcEnd ⟨h', _, rfl, hkp', rfl⟩
    | true =>
      simp only [if_true]
      refine x_execs_cons (x_yield rfl rfl rfl ?_)
      k_steps
      refine Halt.go (wpAny_newTuple ?_)
      intro l' k' p' hk''
      refine ⟨_, _, rfl, hkp'.trans fun b o _ e => Heap.get?_push_of_some _ e, _, _, _, _, _, _, _, _, _, rfl, Heap.get?_push_size _ rfl, ?_⟩
      refine ⟨_, _, _, _, _, _, rfl, fun s' hag => ?_⟩
      rw [hk'']
      try dsimp only
      refine x_execs_nil ?_
      try dsimp only
      refine x_execs_nil ?_
      try dsimp only
      exact x_funcEnd ⟨s'.heap, _, rfl, KeepBut.refl, rfl⟩
  | cons c cs =>
    have hlt : i < x.cps.size := by
      have h1 := J.cs
      apply Nat.lt_of_not_le
      intro h2
      rw [List.drop_eq_nil_iff.mpr (by simpa using h2)] at h1
      cases h1
    have hc : x.cps[i]? = some c := by
      have h1 := congrArg List.head? J.cs
      rw [List.head?_drop] at h1
      simpa using h1
    have hcs : x.cps.toList.drop (i + 1) = cs := by
      have h1 := congrArg List.tail J.cs
      rw [List.tail_drop] at h1
      simpa using h1
    refine wpAny_pyNext_enum_itemD (fp := [it]) (n := x.cps.size) (P := fun i v => ∃ c u, x.cps[i]? = some c ∧ v = .str ⟨#[c]⟩ u) (St := fun i h => h.IsStrIter it "str_ascii_iterator" x t i) (Draws.strAscii (over_for1 hA' _ _ _ _ _ _ _ _) it x t) hen J.si hlt hne3 (by simpa using hne3) fun v h' tk' hP ho hs' hT hsz hk' => ?_
    obtain ⟨c', u, hc', rfl⟩ := hP
    rw [hc] at hc'
    cases hc'
    try dsimp only
    refine wpAny_letOwnedTupleGo_enum ho fun h₂ he₂ hs₂ => ?_
    have hLlt : L2 < s.heap.objs.size := hns.lt
    have hT2 : h₂.IsTuple s.heap.objs.size #[.int i tk', .str ⟨#[c]⟩ u] := ⟨_, (hs₂.2 _ (Nat.ne_of_gt (Heap.lt_size hen))).trans hT, rfl, _, rfl⟩
    have hns2 : h₂.Ns L2 m := (hns.at fun o y => hk' _ o hne1 hne2 y).sameBut hs₂ hne1
    refine assign_pair (over_for hA' _ _ _ _ _ _ _ _) hT2 (Fr.bare hns2) rfl rfl rfl rfl fun h₃ tk₃ F₃ hk₃ => ?_
    have he₃ : IsEnum h₃ e it ((i + 1 : Nat) : Int) _ := hk₃ _ _ (Ne.symm hne1) (by simpa using he₂)
    have hs₃ : h₃.IsStrIter it "str_ascii_iterator" x t (i + 1) := by
      obtain ⟨o, ho', r⟩ := hs'
      exact ⟨o, hk₃ _ _ (Ne.symm hne2) ((hs₂.2 _ (Ne.symm hne3)).trans ho'), r⟩
    obtain ⟨h, tk, rfl, hkp⟩ := R
    have hkp' : KeepBut [L2, e, it] s₀.heap h₃ := hkp.trans fun b o hb q => hk₃ b o (fun z => hb (by simp [z])) ((hs₂.2 b (fun z => hb (by simp [z]))).trans (hk' b o (fun z => hb (by simp [z])) (fun z => hb (by simp [z])) q))
    have F5 := Fr.put F₃ [(Str.ofString "escape", _), (Str.ofString "pos", _), (Str.ofString "ch", _)] ⟨hm1, rfl, rfl, trivial⟩
    simp only [putM] at F5
    clear F₃
    try dsimp only
    refine x_execs_cons (x_If ?_)
    k_steps
    have hJ : ∀ (s' : Shared) (esc' : Bool) (m' : Str → Option Value) h' tl' tk₄, (∀ b ∈ [L2, e, it], ∀ o', h₃.get? b = some o' → s'.heap.get? b = some o') → h'.Ns L2 m' → m' (Str.ofString "escape") = some (.bool esc') → m' (Str.ofString "pos") = some (.int (i : Nat) tl') → Heap.SameBut L2 s'.heap h' →
        GJ x t L2 e it cs (i + 1) esc' i { s' with heap := h', toks := tk₄ } := fun s' esc' m' h' tl' tk₄ hag F' e1 e2 S' =>
      ⟨hcs, hlt, ⟨_, _, F', e1, e2⟩, ⟨_, (S'.2 _ (Ne.symm hne1)).trans (hag e (by simp) _ he₃)⟩,
        let ⟨o, ho, r⟩ := hs₃; ⟨o, (S'.2 _ (Ne.symm hne2)).trans (hag it (by simp) _ ho), r⟩⟩
    cases esc with
    | true =>
      simp only [if_true]
      refine x_execs_cons (x_yield rfl rfl rfl ?_)
      k_steps
      refine Halt.go (wpAny_newTuple ?_)
      intro l' k' p' hk''
      refine ⟨_, _, rfl, hkp'.trans fun b o _ e => Heap.get?_push_of_some _ e, _, _, _, _, _, _, _, _, _, rfl, (by rw [bsl_app]; exact Heap.get?_push_size _ rfl), ?_⟩
      refine GenOk.of rfl fun s' hag => ?_
      replace hag : ∀ b ∈ [L2, e, it], ∀ o', h₃.get? b = some o' → s'.heap.get? b = some o' := fun b hb o q => hag b hb o (Heap.get?_push_of_some _ q)
      rw [hk'']
      try dsimp only
      refine x_execs_cons (x_wrapF ?_)
      have F6 := Fr.put (Fr.bare (F5.ns.at' fun o q => hag L2 (by simp) o q)) [(Str.ofString "pos", _)] ⟨rfl, trivial⟩
      simp only [putM] at F6
      clear F5
      k_steps
      refine Halt.go (stS F6 (fun h5 F7 S7 => ?_) rfl rfl)
      try dsimp only
      refine x_execs_nil ?_
      try dsimp only
      refine x_execs_nil ?_
      try dsimp only
      exact PySem.W.X.s_again _ _ _ _ _ _ _ _ rfl (IH cs (by simp) (i + 1) false i s' _ (hJ s' _ _ _ _ _ hag F7.ns rfl rfl S7) ⟨_, _, rfl, fun b o hb q => (S7.2 b fun z => hb (by simp [z])).trans q⟩)
    | false =>
      simp only [Bool.false_eq_true, if_false]
      refine x_execs_cons (x_If ?_)
      k_steps
      rw [one_eq]
      by_cases hc92 : c = 92
      · simp only [hc92, decide_true, if_true]
        have hI : escI (92 :: cs) i false l = escI cs (i + 1) true i := by simp [escI]
        rw [hI]
        refine x_execs_cons (x_wrapF ?_)
        k_steps
        refine Halt.go (stS F5 (fun h5 F7 S7 => ?_) rfl rfl)
        try dsimp only
        refine x_execs_nil ?_
        try dsimp only
        refine x_execs_nil ?_
        try dsimp only
        refine x_execs_nil ?_
        try dsimp only
        exact PySem.W.X.s_again _ _ _ _ _ _ _ _ rfl (IH cs (by simp) (i + 1) true i s₀ _ (hJ { s₀ with heap := h₃, toks := tk₃ } _ _ _ _ _ (fun _ _ _ q => q) F7.ns rfl rfl S7) ⟨_, _, rfl, hkp'.trans fun b o hb q => (S7.2 b fun z => hb (by simp [z])).trans q⟩)
      · simp only [hc92, decide_false, Bool.false_eq_true, if_false]
        have hI : escI (c :: cs) i false l = (i, ⟨#[c]⟩) :: escI cs (i + 1) false i := by simp [escI, hc92]
        rw [hI]
        refine x_execs_cons (x_yield rfl rfl rfl ?_)
        k_steps
        refine Halt.go (wpAny_newTuple ?_)
        intro l' k' p' hk''
        refine ⟨_, _, rfl, hkp'.trans fun b o _ e => Heap.get?_push_of_some _ e, _, _, _, _, _, _, _, _, _, rfl, Heap.get?_push_size _ rfl, ?_⟩
        refine GenOk.of rfl fun s' hag => ?_
        replace hag : ∀ b ∈ [L2, e, it], ∀ o', h₃.get? b = some o' → s'.heap.get? b = some o' := fun b hb o q => hag b hb o (Heap.get?_push_of_some _ q)
        rw [hk'']
        try dsimp only
        refine x_execs_nil ?_
        try dsimp only
        refine x_execs_nil ?_
        try dsimp only
        refine x_execs_nil ?_
        try dsimp only
        exact PySem.W.X.s_again _ _ _ _ _ _ _ _ rfl (IH cs (by simp) (i + 1) false i s' _ (hJ s' _ _ s'.heap _ s'.toks hag (F5.ns.at' fun o q => hag L2 (by simp) o q) rfl rfl ⟨rfl, fun _ _ => rfl⟩) ⟨_, _, rfl, KeepBut.refl⟩)
end
section
open PySem PySem.W PyProof.Rows PySem.Calls PySem.Spec
open PySem.W.X (SegX)
namespace Mine
theorem SegX.quiet {M : Model} {A : Around} {c : Code} {t : Sem Fin} {fs : List Frame} {s : Shared} {P : End → Shared → Prop} (x : SegX M A c t fs s P) : SegX M A c t fs s (fun e s' => e.quiet = true ∧ P e s') := fun Γ p hc hΓ => by
  obtain ⟨e, s', hr, hq, hp⟩ := x Γ p hc hΓ
  exact ⟨e, s', hr, hq, hq, hp⟩
/-- the generator numbered g is ready to hand out the items; wr: what it writes -/
def GenSt (prog : Program) (w : World) (A : Around) (L2 : Addr) (h₀ : Heap) (g : Nat) (wr : List Addr) (items : List (Nat × Str)) (s : Shared) : Prop :=
  (wr = [L2] ∧ ∃ gs h, s.gens[g]? = some gs ∧ GenNew prog w A L2 items h₀ gs h ∧ ∃ o, h.get? L2 = some o ∧ s.heap.get? L2 = some o) ∨
  (∃ gs h, s.gens[g]? = some gs ∧ GenOk prog w A wr items gs h ∧ ∀ b ∈ wr, ∀ o, h.get? b = some o → s.heap.get? b = some o)
theorem GenSt.frame {prog : Program} {w : World} {A : Around} {L2 : Addr} {h₀ : Heap} {g : Nat} {wr : List Addr} {items : List (Nat × Str)} {s s' : Shared} (G : GenSt prog w A L2 h₀ g wr items s) (hg : s'.gens[g]? = s.gens[g]?)
    (hk : ∀ b ∈ wr, ∀ o, s.heap.get? b = some o → s'.heap.get? b = some o) : GenSt prog w A L2 h₀ g wr items s' := by
  rcases G with ⟨rfl, gs, h, e, N, o, h1, h2⟩ | ⟨gs, h, e, N, a⟩
  · exact .inl ⟨rfl, gs, h, hg.trans e, N, o, h1, hk _ (by simp) _ h2⟩
  · exact .inr ⟨gs, h, hg.trans e, N, fun b hb o q => hk b hb o (a b hb o q)⟩
section
variable {prog : Program} {w : World} {A : Around} {E : Value → Shared → Prop} {s : Shared}
theorem resume_any {α : Type} {g : Nat} {gs : GenState} {l : List Value} {k : GenResult → Sem α} {Q : α → Shared → Prop} {c₀ : Code} {t₀ : Sem Fin} {fs₀ : List Frame} (hg : s.gens[g]? = some gs)
    (hgs : (gs = .fresh c₀ ∧ t₀ = denote table c₀ ∧ fs₀ = []) ∨ (∃ k₀ l₀ p₀ cl, gs = .suspended k₀ l₀ c₀ p₀ fs₀ cl ∧ t₀ = k₀ (.send .none)))
    (x : SegX (model prog w) A c₀ t₀ fs₀ (s.setGen g .running) (fun e s₁ => wpAny (model prog w) A (k e.result) Q E (s₁.setGen g e.genState))) :
    wpAny (model prog w) A (.resume g (.send .none) l k) Q E s := fun Γ p hΓ =>
  PySem.W.X.wake_any α prog w hg (hgs.imp (fun ⟨a, b, c⟩ => ⟨a, rfl, b, c⟩) id) (fun Γ => Γ.In A) (fun _ h => h) (x.mono fun _ _ h Γ p hC => h Γ p hC) Γ p hΓ
theorem gen_next {ga L2 : Addr} {h₀ : Heap} {g : Nat} {wr : List Addr} {items : List (Nat × Str)} {Q : Option Value → Shared → Prop} (hh : A.handled = none) (hl : h₀.NoLimit) (hroom : A.depth < recursionLimit)
    (hb : ∀ b o, h₀.get? b = some o → s.heap.get? b = some o) (hg : s.heap.IsGen ga g) (G : GenSt prog w A.in1 L2 h₀ g wr items s)
    (done : items = [] → ∀ h' gn tk, (∀ b o, b ∉ wr → s.heap.get? b = some o → h'.get? b = some o) → gn.size = s.gens.size → (∀ j, j ≠ g → gn[j]? = s.gens[j]?) → (AllBare s.gens → AllBare gn) → Q none { s with heap := h', gens := gn, toks := tk })
    (item : ∀ p u rest, items = (p, u) :: rest → ∀ tp t1 t2 wr' h' gn tk, (∀ b o, b ∉ wr → s.heap.get? b = some o → h'.get? b = some o) → (∀ b ∈ wr', b ∈ wr ∨ s.heap.objs.size ≤ b) → h'.get? tp = some (tupO (.int (p : Nat) t1) (.str u t2)) →
      gn.size = s.gens.size → (∀ j, j ≠ g → gn[j]? = s.gens[j]?) → (AllBare s.gens → AllBare gn) → GenSt prog w A.in1 L2 h₀ g wr' rest { s with heap := h', gens := gn, toks := tk } → Q (some (.ref tp)) { s with heap := h', gens := gn, toks := tk }) :
    wpAny (model prog w) A (pyNext (.ref ga)) Q E s := by
  unfold pyNext
  refine wpAny_bind (wpAny_attempt (wpAny_callSpecial?_slot (name := Str.ofString "__next__") hg.typeIs slot_gen_next
    (wpAny_call_entry slot_gen_next hg.typeIs entry_gen_next ?_ (args_gen_next _))))
  show wpAny _ A.in1 (Builtin.Generator.genWake (.ref ga) (.send .none)) _ _ s
  unfold Builtin.Generator.genWake
  have key : ∃ gs c₀ t₀ fs₀ wr₂, s.gens[g]? = some gs ∧ ((gs = .fresh c₀ ∧ t₀ = denote table c₀ ∧ fs₀ = []) ∨ (∃ k₀ l₀ p₀ cl, gs = .suspended k₀ l₀ c₀ p₀ fs₀ cl ∧ t₀ = k₀ (.send .none))) ∧
      SegX (model prog w) A.in1 c₀ t₀ fs₀ (s.setGen g .running) (GenPost prog w A.in1 wr₂ items (s.setGen g .running)) ∧ (∀ b ∈ wr₂, b ∈ wr ∨ s.heap.objs.size ≤ b) := by
    rcases G with ⟨rfl, gs, h, e, ⟨c, rfl, N⟩, o, h1, h2⟩ | ⟨gs, h, e, N, a⟩
    · refine ⟨_, c, _, _, _, e, .inl ⟨rfl, rfl, rfl⟩, N (s.setGen g .running) (fun o' q => by rw [h1] at q; cases q; exact h2) hb, fun b hb' => ?_⟩
      simp only [List.mem_cons, List.not_mem_nil, or_false] at hb'
      rcases hb' with rfl | rfl | rfl
      · exact .inl (by simp)
      · exact .inr (Nat.le_succ _)
      · exact .inr (Nat.le_refl _)
    · obtain ⟨k, l, c, p, fs, cl, rfl, H⟩ := N.out
      exact ⟨_, c, _, _, wr, e, .inr ⟨_, _, _, _, rfl, rfl⟩, H (s.setGen g .running) a, fun b hb' => .inl hb'⟩
  obtain ⟨gs, c₀, t₀, fs₀, wr₂, hgs, hform, hseg, hwr⟩ := key
  have hlt : g < s.gens.size := (Array.getElem?_eq_some_iff.mp hgs).1
  have keep : ∀ h₁ : Heap, KeepBut wr₂ s.heap h₁ → ∀ b o, b ∉ wr → s.heap.get? b = some o → h₁.get? b = some o := fun h₁ hk b o hb' q => hk b o (fun hm => by
    rcases hwr b hm with z | z
    · exact hb' z
    · exact absurd (Heap.lt_size q) (Nat.not_lt.mpr z)) q
  have gsz : ∀ y, ((s.gens.setIfInBounds g .running).setIfInBounds g y).size = s.gens.size := fun y => by simp
  have gother : ∀ y j, j ≠ g → ((s.gens.setIfInBounds g .running).setIfInBounds g y)[j]? = s.gens[j]? := fun y j hj => by
    simp [Array.getElem?_setIfInBounds, Ne.symm hj]
  have gself : ∀ y, ((s.gens.setIfInBounds g .running).setIfInBounds g y)[g]? = some y := fun y => by
    simp [Array.getElem?_setIfInBounds, hlt]
  have gbare : ∀ y : GenState, y.bare = true → AllBare s.gens → AllBare ((s.gens.setIfInBounds g .running).setIfInBounds g y) := fun y hy hA z hz => by
    obtain ⟨j, hj, rfl⟩ := Array.mem_iff_getElem.mp hz
    by_cases e : j = g
    · subst e
      have := gself y
      rw [Array.getElem?_eq_getElem hj] at this
      rw [Option.some.inj this]
      exact hy
    · have h1 := gother y j e
      rw [Array.getElem?_eq_getElem hj] at h1
      obtain ⟨hi', e'⟩ := Array.getElem?_eq_some_iff.mp h1.symm
      exact e' ▸ hA _ (Array.getElem_mem hi')
  refine wpAny_bind (wpAny_holding (wpAny_genNumber hg (wpAny_bind (wpAny_genState hgs ?_))))
  rcases hform with ⟨rfl, rfl, rfl⟩ | ⟨k₀, l₀, p₀, cl, rfl, rfl⟩
  · refine wpAny_bind (wpAny_roomToWake (hl.keeps hb) hroom ?_)
    show wpAny _ A.in1 (.resume g (.send .none) [] _) _ _ s
    refine resume_any hgs (.inl ⟨rfl, rfl, rfl⟩) ((SegX.quiet hseg).mono fun e s₁ he => ?_)
    obtain ⟨hq, h₁, tk₁, rfl, hk, hm⟩ := he
    cases items with
    | nil =>
      subst hm
      show wpAny _ A.in1 (newExc (.type "StopIteration") [] >>= _) _ _ _
      refine wpAny_bind ?_
      simp only [newExc, newTuple]
      refine wpAny_bind (wpAny_newObj_type ?_ (by size_fits))
      refine wpAny_bind (m := firstArgMember _ _) (wpAny_of_eq (a := Value.none) (by first | rfl | (simp only [firstArgMember]; rfl)) ?_)
      refine wpAny_newObj_type ?_ (by size_fits)
      simp only [raiseNew]
      refine wpAny_bind (wpAny_bind (wpAny_handled ?_))
      first | rw [show A.in1.handled = none from hh] | rw [hh]
      refine wpAny_throw ?_
      refine wpAny_bind (wpAny_isInstance (T := "StopIteration") (b := true) ⟨_, Heap.get?_push_size _ rfl, rfl⟩ isSubtype_stop ?_)
      exact wpAny_pure (done rfl _ _ _ (fun b o hb' q => Heap.get?_push_of_some _ (Heap.get?_push_of_some _ (keep h₁ hk b o hb' q))) (gsz _) (gother _) (gbare _ rfl))
    | cons q rest =>
      obtain ⟨p, u⟩ := q
      obtain ⟨tp, t1, t2, g', l', k', c', p', fs', rfl, ht, hok⟩ := hm
      refine wpAny_pure ⟨_, rfl, wpAny_pure ?_⟩
      exact item p u rest rfl tp t1 t2 wr₂ h₁ _ tk₁ (keep h₁ hk) hwr ht (gsz _) (gother _) (gbare _ (End.bare_of_quiet hq)) (.inr ⟨_, h₁, gself _, hok, fun _ _ _ z => z⟩)
  · refine wpAny_bind (wpAny_roomToWake (hl.keeps hb) hroom ?_)
    show wpAny _ A.in1 (.resume g (.send .none) [] _) _ _ s
    refine resume_any hgs (.inr ⟨_, _, _, _, rfl, rfl⟩) ((SegX.quiet hseg).mono fun e s₁ he => ?_)
    obtain ⟨hq, h₁, tk₁, rfl, hk, hm⟩ := he
    cases items with
    | nil =>
      subst hm
      show wpAny _ A.in1 (newExc (.type "StopIteration") [] >>= _) _ _ _
      refine wpAny_bind ?_
      simp only [newExc, newTuple]
      refine wpAny_bind (wpAny_newObj_type ?_ (by size_fits))
      refine wpAny_bind (m := firstArgMember _ _) (wpAny_of_eq (a := Value.none) (by first | rfl | (simp only [firstArgMember]; rfl)) ?_)
      refine wpAny_newObj_type ?_ (by size_fits)
      simp only [raiseNew]
      refine wpAny_bind (wpAny_bind (wpAny_handled ?_))
      first | rw [show A.in1.handled = none from hh] | rw [hh]
      refine wpAny_throw ?_
      refine wpAny_bind (wpAny_isInstance (T := "StopIteration") (b := true) ⟨_, Heap.get?_push_size _ rfl, rfl⟩ isSubtype_stop ?_)
      exact wpAny_pure (done rfl _ _ _ (fun b o hb' q => Heap.get?_push_of_some _ (Heap.get?_push_of_some _ (keep h₁ hk b o hb' q))) (gsz _) (gother _) (gbare _ rfl))
    | cons q rest =>
      obtain ⟨p, u⟩ := q
      obtain ⟨tp, t1, t2, g', l', k', c', p', fs', rfl, ht, hok⟩ := hm
      refine wpAny_pure ⟨_, rfl, wpAny_pure ?_⟩
      exact item p u rest rfl tp t1 t2 wr₂ h₁ _ tk₁ (keep h₁ hk) hwr ht (gsz _) (gother _) (gbare _ (End.bare_of_quiet hq)) (.inr ⟨_, h₁, gself _, hok, fun _ _ _ z => z⟩)
end
end Mine
end
section
open PySem PySem.W PyProof.Rows PySem.Calls PySem.Spec
open PySem.W.X (SegX)
namespace Mine
section
variable {prog : Program} {w : World} {A : Around} {E : Value → Shared → Prop} {s : Shared}
theorem letGo_gen {elts : List Expr} {x1 : Nat} {pos : Pos} {ga tp : Addr} {g : Nat} {Q : Unit → Shared → Prop} (hg : s.heap.IsGen ga g) (hQ : Q () s) :
    wpAny (model prog w) A (letOwnedTupleGo (.Tuple elts x1 pos) (.ref ga) (.ref tp)) Q E s := by
  obtain ⟨o, nm, qn, ho, hc, hd, hsl⟩ := hg
  unfold letOwnedTupleGo
  refine wpAny_bind (wpAny_load ho ?_)
  rw [hc, hd]
  show wpAny _ A (if (["enumerate", "zip", "dict_itemiterator", "dict_reverseitemiterator", "odict_iterator", "itertools.zip_longest", "itertools.pairwise"].contains "generator" &&
      (#[.int g 0, nm, qn] : Array Value)[0]? == some (rawInt tp)) = true then _ else _) Q E s
  rw [if_neg (by
    intro h
    rw [show (["enumerate", "zip", "dict_itemiterator", "dict_reverseitemiterator", "odict_iterator", "itertools.zip_longest", "itertools.pairwise"].contains "generator") = false from by decide, Bool.false_and] at h
    cases h)]
  exact wpAny_pure hQ
end
/-- the objects at the places b of l, as they stand in h -/
def objsAt (h : Heap) : List Addr → List (Addr × Obj)
  | [] => []
  | b :: l => match h.get? b with
    | some o => (b, o) :: objsAt h l
    | none => objsAt h l
theorem objsAt_cons_some {h : Heap} {b : Addr} {l : List Addr} {o : Obj} (e : h.get? b = some o) : objsAt h (b :: l) = (b, o) :: objsAt h l := by
  show (match h.get? b with | some o => (b, o) :: objsAt h l | none => objsAt h l) = _
  rw [e]
theorem objsAt_cons_none {h : Heap} {b : Addr} {l : List Addr} (e : h.get? b = none) : objsAt h (b :: l) = objsAt h l := by
  show (match h.get? b with | some o => (b, o) :: objsAt h l | none => objsAt h l) = _
  rw [e]
theorem objsAt_mem {h : Heap} {b : Addr} {o : Obj} (e : h.get? b = some o) (l : List Addr) : b ∈ l → (b, o) ∈ objsAt h l := by
  induction l with
  | nil => intro hb; cases hb
  | cons c l ih =>
    intro hb
    cases q : h.get? c with
    | some o' =>
      rw [objsAt_cons_some q]
      rcases List.mem_cons.mp hb with z | z
      · subst z; rw [e] at q; cases q; exact .head _
      · exact .tail _ (ih z)
    | none =>
      rw [objsAt_cons_none q]
      rcases List.mem_cons.mp hb with z | z
      · subst z; rw [e] at q; cases q
      · exact ih z
theorem objsAt_sub {h : Heap} (l : List Addr) : ∀ p ∈ objsAt h l, p.1 ∈ l ∧ h.get? p.1 = some p.2 := by
  induction l with
  | nil => intro p hp; cases hp
  | cons c l ih =>
    intro p hp
    cases q : h.get? c with
    | some o' =>
      rw [objsAt_cons_some q] at hp
      rcases List.mem_cons.mp hp with z | z
      · rw [z]; exact ⟨.head _, q⟩
      · exact ⟨.tail _ (ih p z).1, (ih p z).2⟩
    | none =>
      rw [objsAt_cons_none q] at hp
      exact ⟨.tail _ (ih p hp).1, (ih p hp).2⟩
/-- a turn's end over the generator's items -/
def GEnd (base : Heap) (L : Addr) (J : (Str → Option Value) → List (Addr × Obj) → Prop) (own : List (Addr × Obj)) (adr : List Addr) (s₁ s₂ : Shared) : Prop :=
  ∃ h' tk m' news' nx, s₂ = { s₁ with heap := h', toks := tk } ∧ Fr base L h' m' ∧ News base L h' news' ∧ (∀ p ∈ nx, p ∈ news') ∧ (∀ p ∈ own, p ∈ news') ∧ nx.map (·.1) = adr ∧ J m' nx
def GPost (base : Heap) (L : Addr) (J : (Str → Option Value) → List (Addr × Obj) → Prop) (own : List (Addr × Obj)) (adr : List Addr) (s₁ : Shared) (Q : Flow → Shared → Prop) (f : Flow) (s₂ : Shared) : Prop :=
  match f with
  | .ret v => Q (.ret v) s₂
  | .brk => Q .next s₂
  | _ => GEnd base L J own adr s₁ s₂
section
variable {prog : Program} {w : World} {A : Around} {E : Value → Shared → Prop} {s : Shared} {env : Env} {base : Heap}
theorem loopGen {a b : Str} {p1 p2 p3 : Pos} {k : Nat} {body : List Stmt} {R : Result → Shared → Prop} {ga L2 : Addr} {g : Nat} {wr : List Addr} {items : List (Nat × Str)} {m₀ : Str → Option Value} {news : List (Addr × Obj)}
    (J : List (Nat × Str) → (Str → Option Value) → List (Addr × Obj) → Prop)
    (hh : A.handled = none) (hl : base.NoLimit) (hroom : A.depth < recursionLimit) (ha : env.kindOf a = some .local) (hb : env.kindOf b = some .local)
    (hp : (env.scope.kind == .class || (env.scope.kind == .module && env.locals != env.globals)) = false)
    (hg : s.heap.IsGen ga g) (G : GenSt prog w A.in1 L2 base g wr items s) (F : Fr base env.locals s.heap m₀) (N : News base env.locals s.heap news) (hJ : J items m₀ news)
    (hga : base.get? ga = none ∧ ga ≠ env.locals ∧ ga ∉ wr ∧ ga ∉ news.map (·.1)) (hwr : ∀ c ∈ wr, base.get? c = none ∧ c ≠ env.locals ∧ c ∉ news.map (·.1))
    (turn : ∀ p u t1 t2 rest m₁ news₁ h gn tk own E', J ((p, u) :: rest) m₁ news₁ → news₁.map (·.1) = news.map (·.1) → OwnOff own (news.map (·.1)) →
      Fr base env.locals h (fun y => if y = b then some (.str u t2) else if y = a then some (.int (p : Nat) t1) else m₁ y) → News base env.locals h (news₁ ++ own) →
      wpAny (model prog w) A (execs body env) (GPost base env.locals (J rest) own (news.map (·.1)) { s with heap := h, gens := gn, toks := tk } (fun f s' => R (.ok f) s')) E' { s with heap := h, gens := gn, toks := tk })
    (done : ∀ m₁ news₁ h gn tk, J [] m₁ news₁ → Fr base env.locals h m₁ → News base env.locals h news₁ → (AllBare s.gens → AllBare gn) → R (.ok .next) { s with heap := h, gens := gn, toks := tk }) :
    codeAny (model prog w) A (.forLoop (.Tuple [.Name a p1, .Name b p2] k p3) (.ref ga) body [] env) R s := by
  refine codeAny_forLoop_any (fun n s' => ∃ h gn tk wr' items' m' news', n = items'.length + 1 ∧ s' = { s with heap := h, gens := gn, toks := tk } ∧ s'.heap.IsGen ga g ∧ GenSt prog w A.in1 L2 base g wr' items' s' ∧ Fr base env.locals h m' ∧ News base env.locals h news' ∧ J items' m' news' ∧
      news'.map (·.1) = news.map (·.1) ∧ (base.get? ga = none ∧ ga ≠ env.locals ∧ ga ∉ wr' ∧ ga ∉ news.map (·.1)) ∧ (∀ c ∈ wr', base.get? c = none ∧ c ≠ env.locals ∧ c ∉ news.map (·.1)) ∧ (AllBare s.gens → AllBare gn)) ?_ _
    ⟨s.heap, s.gens, s.toks, wr, items, m₀, news, rfl, rfl, hg, G, F, N, hJ, rfl, hga, hwr, id⟩
  rintro n s' ⟨h, gn, tk, wr', items', m', news', rfl, rfl, hg', G', F', N', hJ', hadr, hga', hwr', hbare⟩
  have keepFN : ∀ h' : Heap, (∀ c o, c ∉ wr' → h.get? c = some o → h'.get? c = some o) → Fr base env.locals h' m' ∧ News base env.locals h' news' ∧ h'.IsGen ga g := fun h' hk =>
    ⟨⟨F'.ns.at' fun o e => hk _ o (fun hm => (hwr' _ hm).2.1 rfl) e, fun c o e => hk c o (fun hm => by rw [(hwr' c hm).1] at e; cases e) (F'.keep c o e), F'.above⟩,
      fun q hq => ⟨hk _ _ (fun hm => (hwr' _ hm).2.2 (hadr ▸ List.mem_map_of_mem hq)) (N' q hq).1, (N' q hq).2⟩,
      let ⟨o, nm, qn, ho, r⟩ := hg'; ⟨o, nm, qn, hk _ _ hga'.2.2.1 ho, r⟩⟩
  refine gen_next hh hl hroom (fun c o e => F'.keep c o e) hg' G' ?_ ?_
  · rintro rfl h' gn' tk' hk hsz hoth hbr
    obtain ⟨F₁, N₁, _⟩ := keepFN h' hk
    exact wpAny_execs_nil (done m' news' h' gn' tk' hJ' F₁ N₁ fun z => hbr (hbare z))
  · rintro p u rest rfl tp t1 t2 wr₂ h' gn' tk' hk hsub ht hsz hoth hbr G₂
    obtain ⟨F₁, N₁, hg₁⟩ := keepFN h' hk
    refine letGo_gen hg₁ ?_
    refine assign_pair hh ⟨_, ht, rfl, _, rfl⟩ F₁ rfl ha hb hp fun h₃ tk₃ F₃ hk₃ => ?_
    have hwr₂ : ∀ c ∈ wr₂, base.get? c = none ∧ c ≠ env.locals ∧ c ∉ news.map (·.1) := fun c hc => by
      rcases hsub c hc with z | z
      · exact hwr' c z
      · refine ⟨?_, ?_, ?_⟩
        · cases e : base.get? c with
          | none => rfl
          | some o => exact absurd (Heap.lt_size (F'.keep c o e)) (Nat.not_lt.mpr z)
        · rintro rfl; exact absurd F'.ns.lt (Nat.not_lt.mpr z)
        · intro hm
          rw [← hadr] at hm
          obtain ⟨q, hq, rfl⟩ := List.mem_map.mp hm
          exact absurd (Heap.lt_size (N' q hq).1) (Nat.not_lt.mpr z)
    have hga₂ : ga ∉ wr₂ := fun hm => by
      rcases hsub ga hm with z | z
      · exact hga'.2.2.1 z
      · obtain ⟨o, _, _, ho, _⟩ := hg'
        exact absurd (Heap.lt_size ho) (Nat.not_lt.mpr z)
    have N₃ : News base env.locals h₃ news' := fun q hq => ⟨hk₃ _ _ (N₁ q hq).2.1 (N₁ q hq).1, (N₁ q hq).2⟩
    have fresh : ∀ c ∈ ga :: wr₂, base.get? c = none ∧ c ≠ env.locals ∧ c ∉ news.map (·.1) := fun c hc => by
      rcases List.mem_cons.mp hc with rfl | hc
      · exact ⟨hga'.1, hga'.2.1, hga'.2.2.2⟩
      · exact hwr₂ c hc
    have Nown : News base env.locals h₃ (objsAt h₃ (ga :: wr₂)) := fun q hq => by
      obtain ⟨h1, h2⟩ := objsAt_sub _ q hq
      exact ⟨h2, (fresh _ h1).2.1, (fresh _ h1).1⟩
    have hoff : OwnOff (objsAt h₃ (ga :: wr₂)) (news.map (·.1)) := fun q hq c hc e => (fresh _ (objsAt_sub _ q hq).1).2.2 (e ▸ hc)
    refine wpAny_mono (turn p u t1 t2 rest m' news' h₃ gn' tk₃ (objsAt h₃ (ga :: wr₂)) _ hJ' hadr hoff F₃ (fun q hq => (List.mem_append.mp hq).elim (N₃ q) (Nown q))) (fun f s₂ hf => ?_) fun _ _ e => e
    have fin : GEnd base env.locals (J rest) (objsAt h₃ (ga :: wr₂)) (news.map (·.1)) { s with heap := h₃, gens := gn', toks := tk₃ } s₂ → ∃ m, m < ((p, u) :: rest).length + 1 ∧ ∃ h gn tk wr' items' m' news', m = items'.length + 1 ∧ s₂ = { s with heap := h, gens := gn, toks := tk } ∧ s₂.heap.IsGen ga g ∧ GenSt prog w A.in1 L2 base g wr' items' s₂ ∧ Fr base env.locals h m' ∧ News base env.locals h news' ∧ J items' m' news' ∧
      news'.map (·.1) = news.map (·.1) ∧ (base.get? ga = none ∧ ga ≠ env.locals ∧ ga ∉ wr' ∧ ga ∉ news.map (·.1)) ∧ (∀ c ∈ wr', base.get? c = none ∧ c ≠ env.locals ∧ c ∉ news.map (·.1)) ∧ (AllBare s.gens → AllBare gn) := by
      rintro ⟨h₄, tk₄, m₄, news₄, nx, rfl, F₄, N₄, hn, ho, ha', hJ₄⟩
      have stay : ∀ c ∈ ga :: wr₂, ∀ o, h₃.get? c = some o → h₄.get? c = some o := fun c hc o e => (N₄ _ (ho _ (objsAt_mem e _ hc))).1
      refine ⟨rest.length + 1, by simp, h₄, gn', tk₄, wr₂, rest, m₄, nx, rfl, rfl, ?_, ?_, F₄, fun q hq => N₄ q (hn q hq), hJ₄, ha', ⟨hga'.1, hga'.2.1, hga₂, hga'.2.2.2⟩, hwr₂, fun z => hbr (hbare z)⟩
      · obtain ⟨o, nm, qn, ho', r⟩ := hg₁
        exact ⟨o, nm, qn, stay ga (.head _) o (hk₃ _ _ hga'.2.1 ho'), r⟩
      · exact G₂.frame rfl fun c hc o e => stay c (.tail _ hc) o (hk₃ _ _ (hwr₂ c hc).2.1 e)
    cases f with
    | ret v => exact hf
    | brk => exact hf
    | next => exact fin hf
    | cont => exact fin hf
end
theorem fresh_at {g h : Heap} {L : Addr} {m : Str → Option Value} {news : List (Addr × Obj)} (F : Fr g L h m) (N : News g L h news) (c : Addr) (hc : h.objs.size ≤ c) : g.get? c = none ∧ c ≠ L ∧ c ∉ news.map (·.1) := by
  refine ⟨?_, ?_, ?_⟩
  · cases e : g.get? c with
    | none => rfl
    | some o => exact absurd (Heap.lt_size (F.keep c o e)) (Nat.not_lt.mpr hc)
  · rintro rfl; exact absurd F.ns.lt (Nat.not_lt.mpr hc)
  · intro hm
    obtain ⟨q, hq, rfl⟩ := List.mem_map.mp hm
    exact absurd (Heap.lt_size (N q hq).1) (Nat.not_lt.mpr hc)
end Mine
end
section
theorem fresh_M9 : True := by
  w_top off
  trivial
open PySem.W.X (SegX)
open PySem PySem.W PyProof.Rows PySem.Calls PySem.Spec

open Mine
section
local macro_rules | `(tactic| walk_at "exec For Tuple Call cons nil") => `(tactic| refine Mine.Halt.mk ?_)
local macro_rules | `(tactic| walk_at "newList") => `(tactic| refine Mine.Halt.mk ?_)
local macro_rules | `(tactic| walk_at "call ref cons nil") => `(tactic| refine Mine.Halt.mk ?_)
local macro_rules | `(tactic| walk_at "call ref") => `(tactic| refine Mine.Halt.mk ?_)

namespace Mine
def cut (x : Str) (a b : Nat) : Str := Txt.slice x (some (a : Int)) (some (b : Int))
def cutE (x : Str) (a : Nat) : Str := Txt.slice x (some (a : Int)) none
def stripGo (x : Str) : List (Nat × Str) → Nat → Option Nat → List Str → Nat × List Str
  | [], st, _, r => (st, r)
  | (p, u) :: rest, st, op, r => if u = ⟨#[34]⟩ then (match op with
      | none => stripGo x rest st (some p) r
      | some o => stripGo x rest (p + 1) none (if st ≠ o then r ++ [cut x st o] else r)) else stripGo x rest st op r
def hasQ (x : Str) : Bool := !(Builtin.Str.occurrences x (Str.ofString "\"") 0 x.length 1).isEmpty
def stripS (x : Str) : Str := if hasQ x then
    (let r := stripGo x (escI x.cps.toList 0 false 0) 0 none []
     Txt.join (Str.ofString "") (r.2 ++ (if r.1 < x.cps.size then [cutE x r.1] else []))) else x
theorem sum_le {r : List Str} {k : Nat} (h : ∀ y ∈ r, y.length ≤ k) : (r.map (·.length)).sum ≤ r.length * k := by
  induction r with
  | nil => simp
  | cons y r ih =>
    have h1 := h y (.head _)
    have h2 := ih fun z hz => h z (.tail _ hz)
    simp only [List.map_cons, List.sum_cons, List.length_cons, Nat.succ_mul]
    omega
theorem weight_le {r : List Str} {k : Nat} (h : ∀ y ∈ r, y.length ≤ k) (hk : k ≤ 64) (hr : r.length ≤ 65) : (r.map (·.length)).sum + r.length ≤ 1048576 := by
  have h1 := sum_le h
  have h2 : r.length * k ≤ 65 * 64 := Nat.mul_le_mul hr hk
  omega
theorem quo : Str.ofString "\"" = (⟨#[34]⟩ : Str) := by decide +kernel
def Inc (hi : Nat) : Nat → List (Nat × Str) → Prop
  | _, [] => True
  | lo, (p, _) :: r => lo ≤ p ∧ p < hi ∧ Inc hi (p + 1) r
theorem Inc.weaken {hi : Nat} : ∀ {lo lo' : Nat} {l : List (Nat × Str)}, lo' ≤ lo → Inc hi lo l → Inc hi lo' l
  | _, _, [], _, _ => trivial
  | _, _, _ :: _, h, ⟨h1, h2⟩ => ⟨Nat.le_trans h h1, h2⟩
theorem escI_inc (n : Nat) : ∀ (cs : List Nat) (i l : Nat), i + cs.length = n → Inc n i (escI cs i false l) ∧ (l + 1 = i → Inc n l (escI cs i true l))
  | [], i, l, h => ⟨trivial, fun hl => ⟨Nat.le_refl _, by simp at h; omega, trivial⟩⟩
  | c :: cs, i, l, h => by
    simp only [List.length_cons] at h
    have ih := escI_inc n cs (i + 1) i (by omega)
    refine ⟨?_, fun hl => ⟨by omega, by omega, ih.1⟩⟩
    by_cases hc : c = 92
    · have : escI (c :: cs) i false l = escI cs (i + 1) true i := by simp [escI, hc]
      rw [this]; exact ih.2 rfl
    · have : escI (c :: cs) i false l = (i, ⟨#[c]⟩) :: escI cs (i + 1) false i := by simp [escI, hc]
      rw [this]; exact ⟨Nat.le_refl _, by omega, ih.1⟩
theorem strs_snoc {vs : List Value} {r : List Str} (h : StrsAre vs r) (y : Str) (t : Tok) : StrsAre (vs ++ [.str y t]) (r ++ [y]) := by
  induction h with
  | nil => exact .cons y t .nil
  | cons x t' r ih => exact .cons x t' ih
def opV : Option Nat → Tok → Value
  | none, _ => .none
  | some o, t => .int (o : Nat) t
/-- the loop's state -/
structure SJ (x : Str) (t : Tok) (ra : Addr) (news : List (Addr × Obj)) (fin : Nat × List Str) (items : List (Nat × Str)) (m : Str → Option Value) (nx : List (Addr × Obj)) : Prop where
  out : ∃ (st lo : Nat) (op : Option Nat) (r : List Str) (vs : List Value) (n : Nat) (t1 t2 : Tok), m (Str.ofString "addr") = some (.str x t) ∧ m (Str.ofString "start") = some (.int (st : Nat) t1) ∧
    m (Str.ofString "open_pos") = some (opV op t2) ∧ m (Str.ofString "result") = some (.ref ra) ∧ nx = (ra, listOf vs.toArray n) :: news ∧ StrsAre vs r ∧
    stripGo x items st op r = fin ∧ Inc x.cps.size lo items ∧ st ≤ lo ∧ lo ≤ x.cps.size ∧ r.length ≤ lo ∧ (∀ o, op = some o → o < lo ∧ st ≤ o) ∧ (∀ y ∈ r, y.length ≤ x.length)
end Mine
set_option maxRecDepth 100000 in
set_option maxHeartbeats 8000000 in
theorem strip_c {w : World} {mean : ExcName → Option Value} {mg mb : Str → Option Value} {loose : List Str}
   {dp un : Nat} {gd : Option (List Code)} {cn : Str} {cs : Scope} {a : Addr} {ccd : Value} {cl : List (Str × Addr)} {outer : List Env} {A₀ : Around} {base h₀ : Heap} {L : Addr} {m : Str → Option Value} {news : List (Addr × Obj)} {s : Shared} {Q E : Value → Shared → Prop}
   (B : Below A₀ base outer h₀) (F : Fr h₀ L s.heap m) (X : (hd.heap_39 w.params).In h₀) (N : News h₀ L s.heap news) (T : Top topProg loose mean mg mb h₀) (hk : cs.kind = .function)
   (x : Str) (t : Tok) (hx : x.cps.all (· < 128) = true) (hlen : x.cps.size ≤ 64) (hdp : dp + 3 < recursionLimit) (hun : un + 16 < cLine)
   (hret : ∀ t' h' gn tk', Fr h₀ L h' m → News h₀ L h' news → (AllBare s.gens → AllBare gn) → Q (.str (stripS x) t') { s with heap := h', gens := gn, toks := tk' }) :
   wpAny (model PySem.Challenge.rw_pg0087_01.row.prog w) (ktrTop dp un gd cn cs L a ccd cl outer) (call (.ref 28) [.str x t]) Q E s := by
  revert X
  k_fill
  intro X
  refine wpAny_call ?_
  k_dflt (first | (refine' code_def ?k1 ?k2 ?k3 ?k4 ?k5 ?kA ?kF ?kK ?k6 ?k7 ?k8 ?k9 ?kB ?_ ?c2 ?c3 ?c4 ?c5; (case kA => exact rfl); (case kF => exact rfl); (case kK => assumption); (case k1 => k_asm); (case k2 => k_asm); (case k3 => k_asm); (case k4 => k_asm); (case k5 => k_asm); (case k6 => k_is); (case k7 => k_is); (case k8 => ktr_room); (case k9 => first | exact BindsTo.of_eq rfl | exact binds_K (by k_in) rfl (by k_is) rfl rfl rfl | (refine' kp_binds ?kx ?ke; (case kx => k_in); (case ke => exact fun _ => rfl))); (case c5 => decide); (case kB => exact locs rfl); (case c2 => exact rfl); (case c3 => exact rfl); (case c4 => exact rfl); k_whole) | (refine' code_defC ?k1 ?k2 ?k3 ?k4 ?k5 ?kA ?kF ?kK ?k6 ?k7 ?k8 ?k9 ?kB ?kD ?_ ?c2 ?c3 ?c4; (case kA => exact rfl); (case kF => exact rfl); (case kK => assumption); (case k1 => k_asm); (case k2 => k_asm); (case k3 => k_asm); (case k4 => k_asm); (case k5 => k_asm); (case k6 => k_is); (case k7 => k_is); (case k8 => ktr_room); (case k9 => first | exact BindsTo.of_eq rfl | exact binds_K (by k_in) rfl (by k_is) rfl rfl rfl | (refine' kp_binds ?kx ?ke; (case kx => k_in); (case ke => exact fun _ => rfl))); (case kB => exact rfl); (case kD => decide +kernel); (case c2 => exact rfl); (case c3 => exact rfl); (case c4 => exact rfl); k_whole))
  intro g1 L1 h1 FG1 F1 N1 B1 X1 T1
  (try dsimp only); (try k_lift B1); (try k_fold)
  k_steps
  · rename _ = true => hq
    have e : stripS x = x := by unfold stripS hasQ; rw [hq]; rfl
    have := hret t h1 s.gens
    rw [e] at this
    exact this _ (by assumption) (by assumption) id
  · rename _ = false => hq
    rename Fr _ _ _ _ => F2
    rename News _ _ _ _ => N2
    refine Halt.go (newList_K F2 N2 fun ra h2 F2 N2 hlt => ?_)
    k_steps
    refine Halt.go (wpAny_For ?_)
    k_steps
    rename Fr _ _ _ _ => F2
    refine Halt.go (gen_call F2 X1 T1 x t hx (by ktr_room) fun gs h2 tk2 hgn hkp hsz hob hN => ?_)
    refine wpAny_pyIter_gen hgn ?_
    rename News _ _ _ _ => N2
    obtain ⟨ob, hob⟩ := hob
    have hbg : gs.bare = true := by
      obtain ⟨c, e, _⟩ := hN (ktrTop dp un gd cn cs L a ccd cl outer) rfl
      rw [e]; rfl
    dsimp only at hgn hkp hsz hob hN ⊢
    have hroom : ((ktrTop dp un gd cn cs L a ccd cl outer).deeper (envOf (Str.ofString "_strip_quoted_realnames") default L1 28 (Value.ref 27))).depth < recursionLimit := by ktr_room
    have F3 : Fr g1 L1 h2 _ := ⟨F2.ns.at' fun o e => hkp _ o e, fun b o e => hkp b o (F2.keep b o e), F2.above⟩
    have N3 : News g1 L1 h2 _ := fun q hq => ⟨hkp _ _ (N2 q hq).1, (N2 q hq).2⟩
    have fr := fresh_at F2 N2
    refine loopGen (SJ x t _ news (stripGo x (escI x.cps.toList 0 false 0) 0 none [])) rfl T1.nolimit hroom rfl rfl rfl hgn (.inl ⟨rfl, gs, h2, by simp, hN _ rfl, ob, hob, hob⟩) F3 N3 ⟨0, 0, none, [], [], 0, _, 0, rfl, rfl, rfl, rfl, rfl, .nil, rfl, (escI_inc _ _ _ 0 (by simp)).1, Nat.le_refl _, Nat.zero_le _, Nat.le_refl _, (fun _ e => by cases e), (fun _ h => by cases h)⟩
      ⟨(fr _ (by omega)).1, (fr _ (by omega)).2.1, by simp, (fr _ (by omega)).2.2⟩ (fun c hc => by rw [List.mem_singleton.mp hc]; exact fr _ (Nat.le_refl _)) ?_ ?_
    · intro p u t1 t2 rest m₁ news₁ h gn tk own E' hJ hadr hoff F4 N4
      obtain ⟨st, lo, op, r, vs, n, t3, t4, e1, e2, e3, e4, rfl, hvs, hfin, hinc, l1, l2, l3, l4, l6⟩ := hJ
      obtain ⟨rest0, hrest0⟩ : ∃ r0, r0 = news ++ own := ⟨_, rfl⟩
      rw [List.cons_append, ← hrest0] at N4
      have hoff0 : OwnOff rest0 [ra] := by
        intro q hq b hb
        rw [List.mem_singleton.mp hb]
        rw [hrest0] at hq
        rcases List.mem_append.mp hq with z | z
        · exact Nat.ne_of_lt (hlt q z)
        · exact hoff q z ra (.head _)
      have F5 := Fr.put F4 [(Str.ofString "ch", _), (Str.ofString "pos", _), (Str.ofString "addr", _), (Str.ofString "start", _), (Str.ofString "open_pos", _), (Str.ofString "result", _)] ⟨rfl, rfl, e1, e2, e3, e4, trivial⟩
      simp only [putM] at F5
      change Fr g1 L1 h _ at F5
      change News g1 L1 h _ at N4
      clear F4 F3 N3 F2 N2
      obtain ⟨i1, i2, i3⟩ := hinc
      have hvl := hvs.length
      have hu : ∀ b : Bool, (u == Str.ofString "\"") = b → decide (u = (⟨#[34]⟩ : Str)) = b := fun b e => by rw [← e, quo]; rfl
      have fin : ∀ {h' tk' m' st' lo' op' r' vs' n' t1' t2'}, Fr g1 L1 h' m' → News g1 L1 h' ((ra, listOf (List.toArray vs') n') :: rest0) → m' (Str.ofString "addr") = some (.str x t) → m' (Str.ofString "start") = some (.int ((st' : Nat) : Int) t1') →
          m' (Str.ofString "open_pos") = some (opV op' t2') → m' (Str.ofString "result") = some (.ref ra) → StrsAre vs' r' → stripGo x rest st' op' r' = stripGo x (escI x.cps.toList 0 false 0) 0 none [] →
          Inc x.cps.size lo' rest → st' ≤ lo' → lo' ≤ x.cps.size → r'.length ≤ lo' → (∀ o, op' = some o → o < lo' ∧ st' ≤ o) → (∀ y ∈ r', y.length ≤ x.length) →
          GEnd g1 L1 (SJ x t ra news (stripGo x (escI x.cps.toList 0 false 0) 0 none []) rest) own (((ra, listOf #[] 0) :: news).map (·.1)) { s with heap := h, gens := gn, toks := tk } { s with heap := h', gens := gn, toks := tk' } := by
        intro h' tk' m' st' lo' op' r' vs' n' t1' t2' F' N' a1 a2 a3 a4 a5 a6 a7 a8 a9 a10 a11 a12
        refine ⟨h', tk', m', _, (ra, listOf (List.toArray vs') n') :: news, rfl, F', N', ?_, ?_, rfl, st', lo', op', r', vs', n', t1', t2', a1, a2, a3, a4, rfl, a5, a6, a7, a8, a9, a10, a11, a12⟩
        · intro q hq
          rcases List.mem_cons.mp hq with z | z
          · rw [z]; exact .head _
          · exact .tail _ (by rw [hrest0]; exact List.mem_append.mpr (.inl z))
        · intro q hq
          exact .tail _ (by rw [hrest0]; exact List.mem_append.mpr (.inr hq))
      cases op with
      | none =>
        dsimp only [opV] at F5
        k_steps
        · rename (_ == _) = true => hc
          rename Fr _ _ _ _ => F6
          rename News _ _ _ _ => N6
          have hc' := of_decide_eq_true (hu _ hc)
          refine fin (op' := some p) (lo' := p + 1) F6 N6 rfl rfl rfl rfl hvs ?_ i3 (by omega) (by omega) (by omega) (fun o e => by cases e; omega) l6
          rw [← hfin, hc']; rfl
        · rename (_ == _) = false => hc
          have hc' := of_decide_eq_false (hu _ hc)
          refine fin (op' := none) (t2' := 0) (lo' := p + 1) F5 N4 rfl rfl rfl rfl hvs ?_ i3 (by omega) (by omega) (by omega) (fun o e => by cases e) l6
          rw [← hfin]; simp only [stripGo, if_neg hc']
      | some o =>
        have l5 := l4 o rfl
        dsimp only [opV] at F5
        k_steps
        · rename (_ == _) = true => hc
          rename Fr _ _ _ _ => F6
          rename News _ _ _ _ => N6
          have hc' := of_decide_eq_true (hu _ hc)
          rename (st : Int) ≠ _ => hne
          rw [List.push_toArray] at N6
          refine fin (op' := none) (t2' := 0) (st' := p + 1) (lo' := p + 1) F6 N6 rfl rfl rfl rfl (strs_snoc hvs _ _) ?_ i3 (by omega) (by omega) (by simp; omega) (fun o e => by cases e) (fun y hy => (List.mem_append.mp hy).elim (l6 y) fun z => by rw [List.mem_singleton.mp z]; assumption)
          rw [← hfin, hc']
          have hne' : st ≠ o := fun e => hne (by rw [e])
          simp only [stripGo, if_true, if_pos hne']; rfl
        · rename (_ == _) = true => hc
          rename Fr _ _ _ _ => F6
          rename News _ _ _ _ => N6
          have hc' := of_decide_eq_true (hu _ hc)
          rename (st : Int) = _ => hne
          refine fin (op' := none) (t2' := 0) (st' := p + 1) (lo' := p + 1) F6 N6 rfl rfl rfl rfl hvs ?_ i3 (by omega) (by omega) (by omega) (fun o e => by cases e) l6
          rw [← hfin, hc']
          have hne' : ¬ st ≠ o := fun e => e (by omega)
          simp only [stripGo, if_true, if_neg hne']
        · rename (_ == _) = false => hc
          have hc' := of_decide_eq_false (hu _ hc)
          refine fin (op' := some o) (lo' := p + 1) F5 N4 rfl rfl rfl rfl hvs ?_ i3 (by omega) (by omega) (by omega) (fun o e => by cases e; omega) l6
          rw [← hfin]; simp only [stripGo, if_neg hc']
    · intro m₁ news₁ h gn tk hJ F4 N4 hbr
      obtain ⟨st, lo, op, r, vs, n, t3, t4, e1, e2, e3, e4, rfl, hvs, hfin, hinc, l1, l2, l3, l4, l6⟩ := hJ
      have F5 := Fr.put F4 [(Str.ofString "addr", _), (Str.ofString "start", _), (Str.ofString "result", _)] ⟨e1, e2, e4, trivial⟩
      simp only [putM] at F5
      change Fr g1 L1 h _ at F5
      change News g1 L1 h _ at N4
      have hoff0 : OwnOff news [ra] := by
        intro q hq b hb
        rw [List.mem_singleton.mp hb]
        exact Nat.ne_of_lt (hlt q hq)
      clear F4 F3 N3 F2 N2
      have hvl := hvs.length
      try dsimp only
      k_steps
      refine PyProof.Rows.len_str (by simp [Str.length]; omega) ?_
      k_steps
      · rename News _ _ _ _ => N6
        rw [List.push_toArray] at N6
        have hl6 := N6.isList (.head _)
        rename (st : Int) < _ => hst
        have hcut : (cutE x st).length ≤ x.length := by assumption
        have hbnd : ∀ y ∈ r ++ [cutE x st], y.length ≤ x.length := fun y hy => (List.mem_append.mp hy).elim (l6 y) fun z => by rw [List.mem_singleton.mp z]; exact hcut
        refine join_listW (ys := r ++ [cutE x st]) hl6 (by exact strs_snoc hvs _ _) (by decide) (weight_le hbnd (by simpa [Str.length] using hlen) (by simp; omega)) fun t' k' => ?_
        k_steps
        have e : stripS x = Txt.join (Str.ofString "") (r ++ [cutE x st]) := by
          unfold stripS hasQ
          rw [hq, ← hfin]
          have : st < x.cps.size := by simpa [Str.length] using hst
          simp [stripGo, this]
        have := hret t' _ gn k' (by assumption) (fun q hq' => (by assumption : News h₀ L _ (_ :: news)) q (.tail _ hq')) (fun z => hbr (AllBare.push z hbg))
        rw [e] at this
        exact this
      · have hl6 := N4.isList (.head _)
        rename ¬ (st : Int) < _ => hst
        refine join_listW (ys := r) hl6 (by simpa using hvs) (by decide) (weight_le l6 (by simpa [Str.length] using hlen) (by omega)) fun t' k' => ?_
        k_steps
        have e : stripS x = Txt.join (Str.ofString "") r := by
          unfold stripS hasQ
          rw [hq, ← hfin]
          have : ¬ st < x.cps.size := by simpa [Str.length] using hst
          simp [stripGo, this]
        have := hret t' _ gn k' (by assumption) (fun q hq' => (by assumption : News h₀ L _ (_ :: news)) q (.tail _ hq')) (fun z => hbr (AllBare.push z hbg))
        rw [e] at this
        exact this
end
end
section
open PySem PySem.W PyProof.Rows PySem.Calls PySem.Spec
namespace Mine
/-- one step of an iteration: the next value, set under the target's names -/
def Adv (prog : Program) (w : World) (A : Around) (target : Expr) (env : Env) (it : Value) (Q : Option Unit → Shared → Prop) (E : Value → Shared → Prop) (s : Shared) : Prop :=
  wpAny (model prog w) A (pyNext it) (fun r s₁ => match r with
    | none => Q none s₁
    | some v => wpAny (model prog w) A (letOwnedTupleGo target it v) (fun _ s₂ => wpAny (model prog w) A (assign target env v) (fun _ s₃ => Q (some ()) s₃) E s₂) E s₁) E s
def Fresh (base : Heap) (L : Addr) (news : List (Addr × Obj)) (wr : List Addr) : Prop := ∀ c ∈ wr, base.get? c = none ∧ c ≠ L ∧ c ∉ news.map (·.1)
structure Drv (prog : Program) (w : World) (A : Around) (base : Heap) (L : Addr) (target : Expr) (env : Env) (it : Value) (n : Nat) (I : Nat → List Addr → Shared → Prop) (sets : Nat → (Str → Option Value) → (Str → Option Value) → Prop) : Prop where
  item : ∀ i wr s m news Q E, i < n → I i wr s → Fr base L s.heap m → News base L s.heap news → Fresh base L news wr →
    (∀ wr' h' gn tk m', (AllBare s.gens → AllBare gn) → sets i m m' → Fr base L h' m' → News base L h' news → Fresh base L news wr' → I (i + 1) wr' { s with heap := h', gens := gn, toks := tk } → Q (some ()) { s with heap := h', gens := gn, toks := tk }) → Adv prog w A target env it Q E s
  done : ∀ wr s m news Q E, I n wr s → Fr base L s.heap m → News base L s.heap news → Fresh base L news wr →
    (∀ h' gn tk, (AllBare s.gens → AllBare gn) → Fr base L h' m → News base L h' news → Q none { s with heap := h', gens := gn, toks := tk }) → Adv prog w A target env it Q E s
  self : ∀ i wr s (Q : Value → Shared → Prop) E, I i wr s → Q it s → wpAny (model prog w) A (pyIter it) Q E s
  objs : ∀ i wr s, I i wr s → ∀ c ∈ wr, ∃ o, s.heap.get? c = some o
/-- a turn's end -/
def LEnd (base : Heap) (L : Addr) (J : (Str → Option Value) → List (Addr × Obj) → Prop) (own : List (Addr × Obj)) (s₁ s₂ : Shared) : Prop :=
  ∃ h' gn tk m' news' nx, s₂ = { s₁ with heap := h', gens := gn, toks := tk } ∧ (AllBare s₁.gens → AllBare gn) ∧ Fr base L h' m' ∧ News base L h' news' ∧ (∀ p ∈ nx, p ∈ news') ∧ (∀ p ∈ own, p ∈ news') ∧ OwnOff own (nx.map (·.1)) ∧ J m' nx
def LPostD (base : Heap) (L : Addr) (J : (Str → Option Value) → List (Addr × Obj) → Prop) (own : List (Addr × Obj)) (s₁ : Shared) (Q : Flow → Shared → Prop) (f : Flow) (s₂ : Shared) : Prop :=
  match f with
  | .ret v => Q (.ret v) s₂
  | .brk => Q .next s₂
  | _ => LEnd base L J own s₁ s₂
def ForInv (base : Heap) (L : Addr) (I : Nat → List Addr → Shared → Prop) (J : Nat → (Str → Option Value) → List (Addr × Obj) → Prop) (s : Shared) (n : Nat) (k : Nat) (s' : Shared) : Prop :=
  ∃ h gn tk i wr' m' news', k = n + 1 - i ∧ i ≤ n ∧ s' = { s with heap := h, gens := gn, toks := tk } ∧ (AllBare s.gens → AllBare gn) ∧ I i wr' s' ∧ Fr base L h m' ∧ News base L h news' ∧ Fresh base L news' wr' ∧ J i m' news'
theorem Adv.go {prog : Program} {w : World} {A : Around} {target : Expr} {env : Env} {it : Value} {Q0 Q1 : Shared → Prop} {E : Value → Shared → Prop} {s : Shared} {Q : Option Value → Shared → Prop}
    (h : Adv prog w A target env it (fun r s => match r with | none => Q0 s | some _ => Q1 s) E s) (h0 : ∀ s, Q0 s → Q none s)
    (h1 : ∀ v s, wpAny (model prog w) A (letOwnedTupleGo target it v) (fun _ s₂ => wpAny (model prog w) A (assign target env v) (fun _ s₃ => Q1 s₃) E s₂) E s → Q (some v) s) :
    wpAny (model prog w) A (pyNext it) Q E s := by
  refine wpAny_mono h (fun r s₁ h₁ => ?_) fun _ _ e => e
  cases r with
  | none => exact h0 _ h₁
  | some v => exact h1 _ _ h₁
section
variable {prog : Program} {w : World} {A : Around} {s : Shared} {env : Env} {base : Heap} {target : Expr} {it : Value} {n : Nat} {I : Nat → List Addr → Shared → Prop} {sets : Nat → (Str → Option Value) → (Str → Option Value) → Prop}
theorem forD {body : List Stmt} {R : Result → Shared → Prop} {wr : List Addr} {m₀ : Str → Option Value} {news : List (Addr × Obj)} (D : Drv prog w A base env.locals target env it n I sets)
    (J : Nat → (Str → Option Value) → List (Addr × Obj) → Prop)
    (stay : ∀ i wr s h' gn tk m' nx, I i wr s → (∀ c ∈ wr, ∀ o, s.heap.get? c = some o → h'.get? c = some o) → Fr base env.locals h' m' → News base env.locals h' nx → J i m' nx → I i wr { s with heap := h', gens := gn, toks := tk })
    (hI : I 0 wr s) (F : Fr base env.locals s.heap m₀) (N : News base env.locals s.heap news) (hwr : Fresh base env.locals news wr) (hJ : J 0 m₀ news)
    (turn : ∀ i m₁ m₂ news₁ h gn tk own E', i < n → J i m₁ news₁ → sets i m₁ m₂ → OwnOff own (news₁.map (·.1)) → Fr base env.locals h m₂ → News base env.locals h (news₁ ++ own) →
      wpAny (model prog w) A (execs body env) (LPostD base env.locals (J (i + 1)) own { s with heap := h, gens := gn, toks := tk } (fun f s' => (AllBare s.gens → AllBare gn) → R (.ok f) s')) E' { s with heap := h, gens := gn, toks := tk })
    (done : ∀ m₁ news₁ h gn tk, J n m₁ news₁ → Fr base env.locals h m₁ → News base env.locals h news₁ → (AllBare s.gens → AllBare gn) → R (.ok .next) { s with heap := h, gens := gn, toks := tk }) :
    codeAny (model prog w) A (.forLoop target it body [] env) R s := by
  refine codeAny_forLoop_any (ForInv base env.locals I J s n) ?_ (n + 1)
    ⟨s.heap, s.gens, s.toks, 0, wr, m₀, news, rfl, Nat.zero_le _, rfl, id, hI, F, N, hwr, hJ⟩
  rintro k s' ⟨h, gn, tk, i, wr', m', news', rfl, hi, rfl, hbare, hI', F', N', hwr', hJ'⟩
  by_cases hlt : i < n
  · refine Adv.go (Q0 := fun _ => False) (Q1 := fun s₃ => wpAny (model prog w) A (execs body env) (fun f s₄ => match f with
            | .next | .cont => ∃ m, m < n + 1 - i ∧ ForInv base env.locals I J s n m s₄
            | .brk => R (.ok .next) s₄
            | .ret v => R (.ok (.ret v)) s₄) (notedBy (model prog w) A env fun e s' => R (.error e) s') s₃) (D.item i wr' _ m' news' _ _ hlt hI' F' N' hwr' ?_) (fun _ z => z.elim) (fun _ _ z => z)
    intro wr₂ h₂ gn₂ tk₂ m₂ hb₂ hset F₂ N₂ hwr₂ hI₂
    have Nown : News base env.locals h₂ (objsAt h₂ wr₂) := fun q hq => by
      obtain ⟨h1, h2⟩ := objsAt_sub _ q hq
      exact ⟨h2, (hwr₂ _ h1).2.1, (hwr₂ _ h1).1⟩
    have hoff : OwnOff (objsAt h₂ wr₂) (news'.map (·.1)) := fun q hq c hc e => (hwr₂ _ (objsAt_sub _ q hq).1).2.2 (e ▸ hc)
    have hbb : AllBare s.gens → AllBare gn₂ := fun z => hb₂ (hbare z)
    refine wpAny_mono (turn i m' m₂ news' h₂ gn₂ tk₂ (objsAt h₂ wr₂) _ hlt hJ' hset hoff F₂ (fun q hq => (List.mem_append.mp hq).elim (N₂ q) (Nown q))) (fun f s₃ hf => ?_) fun _ _ e => e
    have fin : LEnd base env.locals (J (i + 1)) (objsAt h₂ wr₂) { s with heap := h₂, gens := gn₂, toks := tk₂ } s₃ → ∃ m, m < n + 1 - i ∧ ForInv base env.locals I J s n m s₃ := by
      rintro ⟨h₄, gn₄, tk₄, m₄, news₄, nx, rfl, hb₄, F₄, N₄, hn, ho, ha', hJ₄⟩
      have N₅ : News base env.locals h₄ nx := fun q hq => N₄ q (hn q hq)
      have st := stay (i + 1) wr₂ _ h₄ gn₄ tk₄ m₄ nx hI₂ (fun c hc o e => (N₄ _ (ho _ (objsAt_mem e _ hc))).1) F₄ N₅ hJ₄
      have hwr₄ : Fresh base env.locals nx wr₂ := fun c hc => ⟨(hwr₂ c hc).1, (hwr₂ c hc).2.1, fun hm => by
        obtain ⟨o, ho'⟩ := D.objs _ _ _ hI₂ c hc
        exact ha' (c, o) (objsAt_mem ho' _ hc) c hm rfl⟩
      exact ⟨n + 1 - (i + 1), by omega, h₄, gn₄, tk₄, i + 1, wr₂, m₄, nx, rfl, hlt, rfl, fun z => hb₄ (hbb z), st, F₄, N₅, hwr₄, hJ₄⟩
    cases f with
    | ret v => exact hf hbb
    | brk => exact hf hbb
    | next => exact fin hf
    | cont => exact fin hf
  · have hin : i = n := by omega
    subst hin
    refine Adv.go (Q0 := fun s₃ => wpAny (model prog w) A (execs [] env) (fun f s₃ => R (.ok f) s₃) (notedBy (model prog w) A env fun e s' => R (.error e) s') s₃) (Q1 := fun _ => False) (D.done wr' _ m' news' _ _ hI' F' N' hwr' ?_) (fun _ z => z) (fun _ _ z => wpAny_mono z (fun _ _ y => wpAny_mono y (fun _ _ f => f.elim) fun _ _ e => e) fun _ _ e => e)
    intro h₂ gn₂ tk₂ hb₂ F₂ N₂
    exact wpAny_execs_nil (done m' news' h₂ gn₂ tk₂ hJ' F₂ N₂ fun z => hb₂ (hbare z))
end
end Mine
end
section
open PySem PySem.W PyProof.Rows PySem.Calls PySem.Spec
namespace Mine
section
variable {prog : Program} {w : World} {A : Around} {E : Value → Shared → Prop} {R : Result → Shared → Prop} {s : Shared}
def tests (ifs : List Expr) (env : Env) : Sem Bool := forIn ifs true fun c r => if r = true then do let ok ← isTrue c env (eval c env); pure (ForInStep.yield ok) else pure (ForInStep.yield r)
theorem compLoop_any {elt target iter : Expr} {ifs : List Expr} {scope : Scope} {pos : Pos} {it acc : Value} {env : Env} (I : Nat → Shared → Prop)
    (turn : ∀ n s E', I n s → wpAny (model prog w) A (pyNext it) (fun r s₁ => match r with
      | none => R (.ok .next) s₁
      | some v => wpAny (model prog w) A (letOwnedTupleGo target it v) (fun _ s₁' => wpAny (model prog w) A (assign target env v) (fun _ s₂ =>
          wpAny (model prog w) A (tests ifs env) (fun ok s₃ =>
            if ok = true then wpAny (model prog w) A (eval elt env) (fun x s₄ =>
              wpAny (model prog w) A (call (.builtin "list.append") [acc, x]) (fun _ s₅ => ∃ m, m < n ∧ I m s₅) E' s₄) E' s₃
            else ∃ m, m < n ∧ I m s₃) E' s₂) E' s₁') E' s₁) E' s)
    (n : Nat) (h : I n s) :
    codeAny (model prog w) A (.compLoop (.ListComp elt [⟨target, iter, ifs, 0⟩] scope pos) 0 it acc env) R s := by
  refine codeAny_loop rfl I (fun n s hI => ?_) n h
  show wpAny _ A ((compTurn (.ListComp elt [⟨target, iter, ifs, 0⟩] scope pos) 0 it acc env).onRaise (fun x => do noteFrame x env; theTreesLotGoes x)) _ _ s
  refine wpAny_noted ?_
  rw [compTurn_list]
  refine wpAny_bind (wpAny_standAt (wpAny_bind (wpAny_mono (turn n s _ hI) (fun r s₁ h₁ => ?_) fun _ _ h' => h')))
  cases r with
  | none => exact wpAny_pure h₁
  | some v =>
    refine wpAny_bind (wpAny_mono h₁ (fun _ s₁' h₁' => ?_) fun _ _ h' => h')
    refine wpAny_bind (wpAny_mono h₁' (fun _ s₂ h₂ => wpAny_bind (wpAny_mono h₂ (fun ok s₃ h₃ => ?_) fun _ _ h' => h')) fun _ _ h' => h')
    cases ok with
    | false => exact wpAny_pure ⟨rfl, h₃⟩
    | true =>
      exact wpAny_bind (wpAny_bind (wpAny_mono h₃ (fun x s₄ h₄ => wpAny_bind (wpAny_mono h₄ (fun _ s₅ h₅ => wpAny_pure (wpAny_pure ⟨rfl, h₅⟩)) fun _ _ h' => h')) fun _ _ h' => h'))
end
end Mine
end
section
open PySem PySem.W PyProof.Rows PySem.Calls PySem.Spec
namespace Mine
section
variable {prog : Program} {w : World} {A : Around} {s : Shared} {env : Env} {base : Heap}
/-- the state of a walk, as a driver keeps it -/
def WSt (L I : Addr) (fp : List Addr) (St : Nat → Heap → Prop) (i : Nat) (wr : List Addr) (s : Shared) : Prop :=
  wr = [I] ∧ St i s.heap ∧ (∀ b ∈ fp, b ≠ L) ∧ I ≠ L ∧ ∃ o, s.heap.get? I = some o
def setN (x : Str) (P : Nat → Value → Prop) (i : Nat) (m m' : Str → Option Value) : Prop := ∃ v, P i v ∧ m' = fun z => if z = x then some v else m z
theorem drvW {I : Addr} {fp : List Addr} {n : Nat} {P : Nat → Value → Prop} {St : Nat → Heap → Prop} {x : Str} {px : Pos} (W : Walks prog w A I fp [I] n P St) (hIo : ∀ i h, St i h → ∃ o, h.get? I = some o)
    (hx : env.kindOf x = some .local) (hp : (env.scope.kind == .class || (env.scope.kind == .module && env.locals != env.globals)) = false) :
    Drv prog w A base env.locals (.Name x px) env (.ref I) n (WSt env.locals I fp St) (setN x P) where
  item := by
    intro i wr s m news Q E hi hI F N hf hQ
    obtain ⟨rfl, hst, hfp, hIL, hIo'⟩ := hI
    have hI0 := hf I (.head _)
    refine W.item i _ _ _ hi hst fun v h' tk hPv hst' hk => ?_
    refine (show wpAny _ A (pure ()) _ _ _ from wpAny_pure ?_)
    have F' : Fr base env.locals h' m := LCg.fr_but F hk (Ne.symm hIL) hI0.1
    have N' : News base env.locals h' news := LCg.news_but N hk fun p hp e => hI0.2.2 (e ▸ List.mem_map_of_mem hp)
    refine wpAny_assign_Name (wpAny_storeName_local hx F'.ns (fun h₂ hn₂ hs₂ => ?_) hp)
    have F₂ := F'.set hn₂ hs₂
    have hst₂ : St (i + 1) h₂ := W.frame _ _ _ hst' fun b hb o e => hs₂.extBut b o (hfp b hb) e
    exact hQ [I] h₂ s.gens _ _ id ⟨v, hPv, rfl⟩ F₂ (fun q hq => ⟨hs₂.extBut _ _ (N' q hq).2.1 (N' q hq).1, (N' q hq).2⟩) hf ⟨rfl, hst₂, hfp, hIL, hIo _ _ hst₂⟩
  done := by
    intro wr s m news Q E hI F N hf hQ
    obtain ⟨rfl, hst, hfp, hIL, hIo'⟩ := hI
    have hI0 := hf I (.head _)
    refine W.done _ _ _ hst fun h' tk hk => ?_
    exact hQ h' s.gens tk id (LCg.fr_but F hk (Ne.symm hIL) hI0.1) (LCg.news_but N hk fun p hp e => hI0.2.2 (e ▸ List.mem_map_of_mem hp))
  self := by
    intro i wr s Q E hI hQ
    exact W.self i _ _ _ hI.2.1 hQ
  objs := by
    rintro i wr s ⟨rfl, _, _, _, o, ho⟩ c hc
    rw [List.mem_singleton.mp hc]; exact ⟨o, ho⟩
/-- what a for loop over xv must do -/
structure ForSrc (prog : Program) (w : World) (A : Around) (target : Expr) (body : List Stmt) (env : Env) (Q : Flow → Shared → Prop) (E : Value → Shared → Prop) (xv : Value) (s₁ : Shared) : Prop where
  mk :: (out : wpAny (model prog w) A (pyIter xv) (fun it s₂ => codeAny (model prog w) A (.forLoop target it body [] env) (fun r s' => match r with | .ok f => Q f s' | .error e => cameBackBy (model prog w) A env E e s') s₂) E s₁)
theorem forSrc {target iter : Expr} {body : List Stmt} {pos : Pos} {Q : Flow → Shared → Prop} {E : Value → Shared → Prop}
    (h : wpAny (model prog w) A (eval iter env) (ForSrc prog w A target body env Q E) E s) (hs : ∀ x, foldedSetIterable iter env x = pure x := by intro _; rfl) :
    wpAny (model prog w) A (exec (.For target iter body [] pos) env) Q E s :=
  wpAny_For (wpAny_mono h (fun _ _ z => z.out) fun _ _ e => e) hs
/-- a for loop over a list of the ledger or of the base -/
theorem forList {x : Str} {px : Pos} {body : List Stmt} {Q : Flow → Shared → Prop} {E : Value → Shared → Prop} {ax : Addr} {its : List Value} {m₀ : Str → Option Value} {news : List (Addr × Obj)}
    (hh : A.handled = none) (hx : env.kindOf x = some .local) (hp : (env.scope.kind == .class || (env.scope.kind == .module && env.locals != env.globals)) = false)
    (F : Fr base env.locals s.heap m₀) (N : News base env.locals s.heap news) (J : Nat → (Str → Option Value) → List (Addr × Obj) → Prop) (hJ : J 0 m₀ news)
    (hat : ∀ i m' nx, J i m' nx → ∃ k, (ax, listOf its.toArray k) ∈ nx)
    (turn : ∀ i v m₁ news₁ h gn tk own E', its[i]? = some v → J i m₁ news₁ → OwnOff own (news₁.map (·.1)) → Fr base env.locals h (fun z => if z = x then some v else m₁ z) → News base env.locals h (news₁ ++ own) →
      wpAny (model prog w) A (execs body env) (LPostD base env.locals (J (i + 1)) own { s with heap := h, gens := gn, toks := tk } (fun f s' => (AllBare s.gens → AllBare gn) → Q f s')) E' { s with heap := h, gens := gn, toks := tk })
    (done : ∀ m₁ news₁ h gn tk, J its.length m₁ news₁ → Fr base env.locals h m₁ → News base env.locals h news₁ → (AllBare s.gens → AllBare gn) → Q .next { s with heap := h, gens := gn, toks := tk }) :
    ForSrc prog w A (.Name x px) body env Q E (.ref ax) s := by
  refine ⟨?_⟩
  obtain ⟨k₀, hk₀⟩ := hat 0 _ _ hJ
  have hl : s.heap.IsList ax its.toArray := ⟨_, (N _ hk₀).1, rfl, _, rfl⟩
  have hlt : ax < s.heap.objs.size := Heap.lt_size (N _ hk₀).1
  have haL : ax ≠ env.locals := (N _ hk₀).2.1
  refine wpAny_pyIter_list hl ?_
  have up : ∀ b o, s.heap.get? b = some o → (s.heap.push { cls := .type "list_iterator", data := .fields #[.ref ax, .int 0 0] }).get? b = some o := fun b o e => Heap.get?_push_of_some _ e
  have hfr := fresh_at F N s.heap.objs.size (Nat.le_refl _)
  have W := Walks.list (prog := prog) (w := w) (A := A) hh s.heap.objs.size ax (Nat.ne_of_lt hlt) its.toArray
  have hIo : ∀ (i : Nat) (h : Heap), (h.IsListIter s.heap.objs.size ax i ∧ h.IsList ax its.toArray) → ∃ o, h.get? s.heap.objs.size = some o := fun i h st => by obtain ⟨o, e, _⟩ := st.1; exact ⟨o, e⟩
  refine forD (drvW (x := x) (px := px) (base := base) (env := env) W hIo hx hp) J ?_ (wr := [s.heap.objs.size]) ⟨rfl, ⟨⟨_, Heap.get?_push_size _ rfl, rfl, rfl⟩, hl.push _⟩, ?_, hfr.2.1, _, Heap.get?_push_size _ rfl⟩ (F.keeps up) (N.grown up) ?_ hJ ?_ ?_
  · rintro i wr s' h' gn tk m' nx ⟨rfl, hst, hfp, hIL, o, ho⟩ hkeep F' N' hJ'
    obtain ⟨k, hk⟩ := hat i m' nx hJ'
    refine ⟨rfl, ⟨hst.1.at fun o e => hkeep _ (.head _) o e, ⟨_, (N' _ hk).1, rfl, _, rfl⟩⟩, hfp, hIL, o, hkeep _ (.head _) o ho⟩
  · intro b hb
    rcases List.mem_cons.mp hb with rfl | hb
    · exact hfr.2.1
    · rw [List.mem_singleton.mp hb]; exact haL
  · intro c hc; rw [List.mem_singleton.mp hc]; exact hfr
  · intro i m₁ m₂ news₁ h gn tk own E' hi hJ₁ hset hoff F₂ N₂
    obtain ⟨v, hv, rfl⟩ := hset
    exact turn i v m₁ news₁ h gn tk own E' (by simpa using hv) hJ₁ hoff F₂ N₂
  · intro m₁ news₁ h gn tk hJ₁ F₁ N₁ hb
    exact done m₁ news₁ h gn tk (by simpa using hJ₁) F₁ N₁ hb
/-- a for loop over a range -/
theorem forRange {x : Str} {px : Pos} {body : List Stmt} {Q : Flow → Shared → Prop} {E : Value → Shared → Prop} {r : Addr} {a b : Int} {t u v : Tok} {n : Nat} {m₀ : Str → Option Value} {news : List (Addr × Obj)}
    (hh : A.handled = none) (hx : env.kindOf x = some .local) (hp : (env.scope.kind == .class || (env.scope.kind == .module && env.locals != env.globals)) = false)
    (F : Fr base env.locals s.heap m₀) (N : News base env.locals s.heap news) (hr : IsRange s.heap r a b 1 t u v) (hsm : Builtin.Range.small a b 1 = true) (hn : Builtin.Range.rangeSize a b 1 = ((n : Nat) : Int))
    (J : Nat → (Str → Option Value) → List (Addr × Obj) → Prop) (hJ : J 0 m₀ news)
    (turn : ∀ (i : Nat) t m₁ news₁ h gn tk own E', i < n → J i m₁ news₁ → OwnOff own (news₁.map (·.1)) → Fr base env.locals h (fun z => if z = x then some (.int (a + (i : Int)) t) else m₁ z) → News base env.locals h (news₁ ++ own) →
      wpAny (model prog w) A (execs body env) (LPostD base env.locals (J (i + 1)) own { s with heap := h, gens := gn, toks := tk } (fun f s' => (AllBare s.gens → AllBare gn) → Q f s')) E' { s with heap := h, gens := gn, toks := tk })
    (done : ∀ m₁ news₁ h gn tk, J n m₁ news₁ → Fr base env.locals h m₁ → News base env.locals h news₁ → (AllBare s.gens → AllBare gn) → Q .next { s with heap := h, gens := gn, toks := tk }) :
    ForSrc prog w A (.Name x px) body env Q E (.ref r) s := by
  refine ⟨?_⟩
  refine wpAny_pyIter_range hr hsm ?_
  have hfr := fresh_at F N s.heap.objs.size (Nat.le_refl _)
  have hIo : ∀ (i : Nat) (h : Heap), IsRangeIter h s.heap.objs.size (a + (i : Nat) * 1) ((n : Int) - (i : Nat)) 1 → ∃ o, h.get? s.heap.objs.size = some o := fun i h st => ⟨_, st⟩
  refine forD (drvW (x := x) (px := px) (base := base) (env := env) (LCg.range_walks hh a n) hIo hx hp) J ?_ (wr := [s.heap.objs.size]) ⟨rfl, ?_, ?_, hfr.2.1, _, Heap.get?_push_size _ rfl⟩ (F.keeps fun _ _ e => Heap.get?_push_of_some _ e) (N.grown fun _ _ e => Heap.get?_push_of_some _ e) ?_ hJ ?_ ?_
  · rintro i wr s' h' gn tk m' nx ⟨rfl, hst, hfp, hIL, o, ho⟩ hkeep F' N' hJ'
    exact ⟨rfl, hkeep _ (.head _) _ hst, hfp, hIL, o, hkeep _ (.head _) o ho⟩
  · show IsRangeIter _ _ _ _ _
    rw [hn]; simpa using Heap.get?_push_size _ rfl
  · intro b hb
    rw [List.mem_singleton.mp hb]; exact hfr.2.1
  · intro c hc; rw [List.mem_singleton.mp hc]; exact hfr
  · intro i m₁ m₂ news₁ h gn tk own E' hi hJ₁ hset hoff F₂ N₂
    obtain ⟨v, ⟨t, rfl⟩, rfl⟩ := hset
    exact turn i t m₁ news₁ h gn tk own E' hi hJ₁ hoff F₂ N₂
  · exact done
end
end Mine
end
section
theorem fresh_N4 : True := by
  w_top off
  trivial
open PySem.W.X (SegX)
open PySem PySem.W PyProof.Rows PySem.Calls PySem.Spec

open Mine
section
local macro_rules | `(tactic| walk_at "exec While Compare cons nil") => `(tactic| refine Mine.Halt.mk ?_)
local macro_rules | `(tactic| walk_at "call ref cons nil") => `(tactic| refine Mine.Halt.mk ?_)
local macro_rules | `(tactic| walk_at "call ref") => `(tactic| refine Mine.Halt.mk ?_)
namespace Mine
def lastS (y : Str) : Str := Txt.item y (-1)
/-- calling f on a text answers the text's last sign, as long as the ledger holds ks -/
structure KeyOk (w : World) (f : Addr) (ks : List (Addr × Obj)) : Prop where
  fn : ∃ oc od fd sl, (f, (⟨oc, od, .func fd, sl⟩ : Obj)) ∈ ks
  go : ∀ {mean : ExcName → Option Value} {mg mb : Str → Option Value} {loose : List Str} {dp un : Nat} {gd : Option (List Code)} {cn : Str} {cs : Scope} {a : Addr} {ccd : Value} {cl : List (Str × Addr)} {outer : List Env} {A₀ : Around} {base h₀ : Heap} {L : Addr} {m : Str → Option Value} {news : List (Addr × Obj)} {s : Shared} {Q E : Value → Shared → Prop},
   Below A₀ base outer h₀ → Fr h₀ L s.heap m → (hd.heap_39 w.params).In h₀ → News h₀ L s.heap news → Top topProg loose mean mg mb h₀ → cs.kind = .function → (∀ p ∈ ks, p ∈ news) → dp + 1 < recursionLimit → un + 8 < cLine →
   ∀ (y : Str) (t : Tok), 0 < y.length → (∀ t' h' tk', Fr h₀ L h' m → News h₀ L h' news → Q (.str (lastS y) t') { s with heap := h', toks := tk' }) →
   wpAny (model PySem.Challenge.rw_pg0087_01.row.prog w) (ktrTop dp un gd cn cs L a ccd cl outer) (call (.ref f) [.str y t]) Q E s
structure BisInvK (kx : List Str) (x : Str) (tx : Tok) (la f : Addr) (g : Heap) (L : Addr) (news : List (Addr × Obj)) (s : Shared) (n : Nat) (s' : Shared) : Prop where
  out : ∃ h' tk m' lo hi t1 t2, s' = { s with heap := h', toks := tk } ∧ Fr g L h' m' ∧ News g L h' news ∧ m' (Str.ofString "a") = some (.ref la) ∧ m' (Str.ofString "x") = some (.str x tx) ∧ m' (Str.ofString "lo") = some (.int (lo : Nat) t1) ∧ m' (Str.ofString "hi") = some (.int (hi : Nat) t2) ∧ m' (Str.ofString "key") = some (.ref f) ∧ lo ≤ hi ∧ hi ≤ kx.length ∧ (∀ f, hi - lo ≤ f → bisGo kx x f lo hi = bisR kx x) ∧ n = hi - lo
theorem BisInvK.mk' {kx : List Str} {x : Str} {tx : Tok} {la f : Addr} {g : Heap} {L : Addr} {news : List (Addr × Obj)} {s : Shared} {h' : Heap} {tk : Nat} {m' : Str → Option Value} {lo hi : Nat} {zl zh : Int} {t1 t2 : Tok}
    (F : Fr g L h' m') (N : News g L h' news) (e1 : m' (Str.ofString "a") = some (.ref la)) (e2 : m' (Str.ofString "x") = some (.str x tx)) (e3 : m' (Str.ofString "lo") = some (.int zl t1)) (e4 : m' (Str.ofString "hi") = some (.int zh t2)) (e5 : m' (Str.ofString "key") = some (.ref f))
    (hl : zl = (lo : Nat)) (hh : zh = (hi : Nat)) (h1 : lo ≤ hi) (h2 : hi ≤ kx.length) (h3 : ∀ f, hi - lo ≤ f → bisGo kx x f lo hi = bisR kx x) : BisInvK kx x tx la f g L news s (hi - lo) { s with heap := h', toks := tk } := by
  subst hl hh
  exact ⟨h', tk, m', lo, hi, t1, t2, rfl, F, N, e1, e2, e3, e4, e5, h1, h2, h3, rfl⟩
theorem getD_map_last (xs : List Str) (i : Nat) (h : i < xs.length) : (xs.map lastS).getD i default = lastS (xs.getD i default) := by
  simp [List.getD, h]
end Mine
set_option maxRecDepth 100000 in
set_option maxHeartbeats 8000000 in
theorem bisK {w : World} {mean : ExcName → Option Value} {mg mb : Str → Option Value} {loose : List Str}
   {dp un : Nat} {gd : Option (List Code)} {cn : Str} {cs : Scope} {a : Addr} {ccd : Value} {cl : List (Str × Addr)} {outer : List Env} {A₀ : Around} {base h₀ : Heap} {L : Addr} {m : Str → Option Value} {news : List (Addr × Obj)} {s : Shared} {Q E : Value → Shared → Prop}
   (B : Below A₀ base outer h₀) (F : Fr h₀ L s.heap m) (X : (hd.heap_39 w.params).In h₀) (N : News h₀ L s.heap news) (T : Top topProg loose mean mg mb h₀) (hk : cs.kind = .function)
   (vs : List Value) (xs : List Str) (hxs : StrsAre vs xs) (la : Addr) (nn : Nat) (x : Str) (tx t0 : Tok) (f : Addr) (ks : List (Addr × Obj)) (K : KeyOk w f ks) (hks : ∀ p ∈ ks, p ∈ news) (hne : ∀ y ∈ xs, 0 < y.length)
   (hla : (la, listOf vs.toArray nn) ∈ news) (hlen : xs.length < 2 ^ 20) (hdp : dp + 2 < recursionLimit) (hun : un + 16 < cLine)
   (hret : ∀ t h' tk', Fr h₀ L h' m → News h₀ L h' news → Q (.int (bisR (xs.map lastS) x : Nat) t) { s with heap := h', toks := tk' }) :
   wpAny (model PySem.Challenge.rw_pg0087_01.row.prog w) (ktrTop dp un gd cn cs L a ccd cl outer) (call (.ref 46) [.ref la, .str x tx, .int 0 t0, .none] [(Str.ofString "key", .ref f)]) Q E s := by
  revert X
  k_fill
  intro X
  refine wpAny_call ?_
  k_dflt (first | (refine' code_def ?k1 ?k2 ?k3 ?k4 ?k5 ?kA ?kF ?kK ?k6 ?k7 ?k8 ?k9 ?kB ?_ ?c2 ?c3 ?c4 ?c5; (case kA => exact rfl); (case kF => exact rfl); (case kK => assumption); (case k1 => k_asm); (case k2 => k_asm); (case k3 => k_asm); (case k4 => k_asm); (case k5 => k_asm); (case k6 => k_is); (case k7 => k_is); (case k8 => ktr_room); (case k9 => first | exact BindsTo.of_eq rfl | exact binds_K (by k_in) rfl (by k_is) rfl rfl rfl | (refine' kp_binds ?kx ?ke; (case kx => k_in); (case ke => exact fun _ => rfl))); (case c5 => decide); (case kB => exact locs rfl); (case c2 => exact rfl); (case c3 => exact rfl); (case c4 => exact rfl); k_whole) | (refine' code_defC ?k1 ?k2 ?k3 ?k4 ?k5 ?kA ?kF ?kK ?k6 ?k7 ?k8 ?k9 ?kB ?kD ?_ ?c2 ?c3 ?c4; (case kA => exact rfl); (case kF => exact rfl); (case kK => assumption); (case k1 => k_asm); (case k2 => k_asm); (case k3 => k_asm); (case k4 => k_asm); (case k5 => k_asm); (case k6 => k_is); (case k7 => k_is); (case k8 => ktr_room); (case k9 => first | exact BindsTo.of_eq rfl | exact binds_K (by k_in) rfl (by k_is) rfl rfl rfl | (refine' kp_binds ?kx ?ke; (case kx => k_in); (case ke => exact fun _ => rfl))); (case kB => exact rfl); (case kD => decide +kernel); (case c2 => exact rfl); (case c3 => exact rfl); (case c4 => exact rfl); k_whole))
  intro g1 L1 h1 FG1 F1 N1 B1 X1 T1
  (try dsimp only); (try k_lift B1); (try k_fold)
  k_steps
  have hvs : vs.length = xs.length := hxs.length
  refine len_list (N1.isList hla) (by simp; omega) ?_
  k_steps
  rename News _ _ _ _ => N2
  rename Fr _ _ _ _ => F2
  refine Halt.go (myWhile (BisInvK (xs.map lastS) x tx la f g1 L1 news s) ?_ (xs.length - 0) (BisInvK.mk' F2 N2 rfl rfl rfl rfl rfl (lo := 0) (hi := xs.length) rfl (by simp [hvs]) (Nat.zero_le _) (by simp) ?_))
  · rintro n s' E' ⟨h', tk, m', lo, hi, t1, t2, rfl, F3, N3, e1, e2, e3, e4, e5, l1, l2, hb, rfl⟩
    have F4 := Fr.put F3 [(Str.ofString "a", _), (Str.ofString "x", _), (Str.ofString "lo", _), (Str.ofString "hi", _), (Str.ofString "key", _)] ⟨e1, e2, e3, e4, e5, trivial⟩
    simp only [putM] at F4
    rw [List.length_map] at l2
    clear F3 F2 N2
    k_steps
    · rename News _ _ _ _ => N5
      have hlt : lo < hi := by omega
      obtain ⟨tm, hm⟩ := strs_at hxs ((lo + hi) / 2) (by omega)
      have hmid := mid_eq lo hi
      obtain ⟨oc, od, fd, sl, hfn⟩ := K.fn
      refine callWith_F (FnAt.of N5 (hks _ hfn)) ?_
      k_steps
      refine item_list (N5.isList hla) (x := .str (xs.getD ((lo + hi) / 2) default) tm) (by omega) (by omega) (by rw [hmid]; simpa only [Int.toNat_natCast, List.getElem?_toArray] using hm) ?_
      k_steps
      · exact FnAt.of (by assumption) (hks _ hfn)
      have hky := getD_map_last xs ((lo + hi) / 2) (by omega)
      have hlm : 0 < (xs.getD ((lo + hi) / 2) default).length := hne _ (by simp [List.getD, show (lo + hi) / 2 < xs.length by omega])
      refine Halt.go (K.go B1 (by assumption) X1 N5 T1 rfl hks (by ktr_room) (by ktr_room) _ _ hlm fun t' h' tk' F6 N6 => ?_)
      k_steps
      · rename News _ _ _ _ => N7
        rename Fr _ _ _ _ => F7
        rename _ < _ => hc
        rw [← hky] at hc
        refine ⟨_, ?_, BisInvK.mk' F7 N7 rfl rfl rfl rfl rfl rfl hmid (by omega) (by simp; omega) fun f hf => ?_⟩
        · omega
        · rw [bisGo_fuel _ _ f (hi - lo) _ _ hf (by omega), ← hb (hi - lo + 1) (by omega)]; simp only [bisGo, if_pos hlt, if_pos hc]
      · rename News _ _ _ _ => N7
        rename Fr _ _ _ _ => F7
        rename ¬ _ < _ => hc
        rw [← hky] at hc
        refine ⟨_, ?_, BisInvK.mk' (lo := (lo + hi) / 2 + 1) F7 N7 rfl rfl rfl rfl rfl (by rw [hmid]; rfl) rfl (by omega) (by simp; omega) fun f hf => ?_⟩
        · omega
        · rw [bisGo_fuel _ _ f (hi - lo) _ _ hf (by omega), ← hb (hi - lo + 1) (by omega)]; simp only [bisGo, if_pos hlt, if_neg hc]
    · have e : lo = bisR (xs.map lastS) x := by rw [← hb 0 (by omega)]; rfl
      rw [e]
      exact hret _ _ _ (by assumption) (by assumption)
  · intro f hf
    unfold bisR
    rw [List.length_map]
    exact bisGo_fuel _ _ _ _ _ _ (by omega) (by omega)
end
end
section
theorem fresh_N5 : True := by
  w_top off
  trivial
open PySem.W.X (SegX)
open PySem PySem.W PyProof.Rows PySem.Calls PySem.Spec

open Mine
section
local macro_rules | `(tactic| walk_at "call ref cons nil") => `(tactic| refine Mine.Halt.mk ?_)
local macro_rules | `(tactic| walk_at "call ref") => `(tactic| refine Mine.Halt.mk ?_)
namespace Mine
theorem bisGo_le (xs : List Str) (x : Str) : ∀ f lo hi, lo ≤ hi → bisGo xs x f lo hi ≤ hi := by
  intro f
  induction f with
  | zero => intro lo hi h; exact h
  | succ f ih =>
    intro lo hi h
    simp only [bisGo]
    split
    · split
      · exact Nat.le_trans (ih _ _ (by omega)) (by omega)
      · exact ih _ _ (by omega)
    · exact h
theorem bisR_le (xs : List Str) (x : Str) : bisR xs x ≤ xs.length := bisGo_le _ _ _ _ _ (Nat.zero_le _)
/-- the unit y set into xs behind all whose key is not above its own -/
def insS (xs : List Str) (y : Str) : List Str := xs.take (bisR (xs.map lastS) (lastS y)) ++ y :: xs.drop (bisR (xs.map lastS) (lastS y))
def insV (xs : List Str) (vs : List Value) (y : Str) (v : Value) : List Value := vs.take (bisR (xs.map lastS) (lastS y)) ++ v :: vs.drop (bisR (xs.map lastS) (lastS y))
end Mine
set_option maxRecDepth 100000 in
set_option maxHeartbeats 8000000 in
theorem insort_c {w : World} {mean : ExcName → Option Value} {mg mb : Str → Option Value} {loose : List Str}
   {dp un : Nat} {gd : Option (List Code)} {cn : Str} {cs : Scope} {a : Addr} {ccd : Value} {cl : List (Str × Addr)} {outer : List Env} {A₀ : Around} {base h₀ : Heap} {L : Addr} {m : Str → Option Value} {rest : List (Addr × Obj)} {s : Shared} {Q E : Value → Shared → Prop}
   (vs : List Value) (xs : List Str) (hxs : StrsAre vs xs) (la : Addr) (nn : Nat) (B : Below A₀ base outer h₀) (F : Fr h₀ L s.heap m) (X : (hd.heap_39 w.params).In h₀) (N : News h₀ L s.heap ((la, listOf vs.toArray nn) :: rest)) (T : Top topProg loose mean mg mb h₀) (hk : cs.kind = .function)
   (hla : OwnOff rest [la]) (y : Str) (ty : Tok) (f : Addr) (ks : List (Addr × Obj)) (K : KeyOk w f ks) (hks : ∀ p ∈ ks, p ∈ rest) (hne : ∀ y ∈ xs, 0 < y.length) (hy : 0 < y.length)
   (hlen : xs.length ≤ 8) (hdp : dp + 3 < recursionLimit) (hun : un + 24 < cLine)
   (hret : ∀ h' tk', Fr h₀ L h' m → News h₀ L h' ((la, listOf (insV xs vs y (.str y ty)).toArray (nn + 1)) :: rest) → Q .none { s with heap := h', toks := tk' }) :
   wpAny (model PySem.Challenge.rw_pg0087_01.row.prog w) (ktrTop dp un gd cn cs L a ccd cl outer) (call (.ref 37) [.ref la, .str y ty] [(Str.ofString "key", .ref f)]) Q E s := by
  revert X
  k_fill
  intro X
  refine wpAny_call ?_
  k_dflt (first | (refine' code_def ?k1 ?k2 ?k3 ?k4 ?k5 ?kA ?kF ?kK ?k6 ?k7 ?k8 ?k9 ?kB ?_ ?c2 ?c3 ?c4 ?c5; (case kA => exact rfl); (case kF => exact rfl); (case kK => assumption); (case k1 => k_asm); (case k2 => k_asm); (case k3 => k_asm); (case k4 => k_asm); (case k5 => k_asm); (case k6 => k_is); (case k7 => k_is); (case k8 => ktr_room); (case k9 => first | exact BindsTo.of_eq rfl | exact binds_K (by k_in) rfl (by k_is) rfl rfl rfl | (refine' kp_binds ?kx ?ke; (case kx => k_in); (case ke => exact fun _ => rfl))); (case c5 => decide); (case kB => exact locs rfl); (case c2 => exact rfl); (case c3 => exact rfl); (case c4 => exact rfl); k_whole) | (refine' code_defC ?k1 ?k2 ?k3 ?k4 ?k5 ?kA ?kF ?kK ?k6 ?k7 ?k8 ?k9 ?kB ?kD ?_ ?c2 ?c3 ?c4; (case kA => exact rfl); (case kF => exact rfl); (case kK => assumption); (case k1 => k_asm); (case k2 => k_asm); (case k3 => k_asm); (case k4 => k_asm); (case k5 => k_asm); (case k6 => k_is); (case k7 => k_is); (case k8 => ktr_room); (case k9 => first | exact BindsTo.of_eq rfl | exact binds_K (by k_in) rfl (by k_is) rfl rfl rfl | (refine' kp_binds ?kx ?ke; (case kx => k_in); (case ke => exact fun _ => rfl))); (case kB => exact rfl); (case kD => decide +kernel); (case c2 => exact rfl); (case c3 => exact rfl); (case c4 => exact rfl); k_whole))
  intro g1 L1 h1 FG1 F1 N1 B1 X1 T1
  (try dsimp only); (try k_lift B1); (try k_fold)
  k_steps
  obtain ⟨oc, od, fd, sl, hfn⟩ := K.fn
  have hks' : ∀ p ∈ ks, p ∈ (la, listOf vs.toArray nn) :: rest := fun p hp => .tail _ (hks p hp)
  refine callWith_F (FnAt.of N1 (hks' _ hfn)) ?_
  k_steps
  · exact FnAt.of (by assumption) (hks' _ hfn)
  refine Halt.go (K.go B1 (by assumption) X1 (by assumption) T1 rfl hks' (by ktr_room) (by ktr_room) _ _ hy fun t' h2 tk2 F2 N2 => ?_)
  k_steps
  refine Halt.go (bisK B1 F2 X1 N2 T1 rfl vs xs hxs la nn _ _ _ f ks K hks' hne (.head _) (by omega) (by ktr_room) (by ktr_room) fun t3 h3 tk3 F3 N3 => ?_)
  k_steps
  rename News _ _ _ _ => N4
  rename Fr _ _ _ _ => F4
  have hb : bisR (xs.map lastS) (lastS y) ≤ vs.length := by
    have := bisR_le (xs.map lastS) (lastS y)
    rw [List.length_map] at this
    rw [hxs.length]; exact this
  have hv : vs.length ≤ 8 := by rw [hxs.length]; exact hlen
  refine kl_insert F4 N4 (by unfold Builtin.List.listFitsIndex; simp; omega) (l := insV xs vs y (.str y ty)) ?_ (.head fun q hq => hla q hq la (.head _)) (by simp [sizeLine]; omega) fun h5 F5 N5 => ?_
  · unfold kl_ins insV
    rw [if_neg (by omega)]
    simp [Nat.min_eq_left hb]
  · k_steps
    exact hret _ _ (by assumption) (by assumption)
end
end
section
theorem fresh_N6 : True := by
  w_top off
  trivial
open PySem.W.X (SegX)
open PySem PySem.W PyProof.Rows PySem.Calls PySem.Spec

open Mine
section
local macro_rules | `(tactic| walk_at "exec For Name Name cons nil") => `(tactic| refine Mine.Halt.mk ?_)
local macro_rules | `(tactic| walk_at "call ref cons nil") => `(tactic| refine Mine.Halt.mk ?_)
local macro_rules | `(tactic| walk_at "call ref") => `(tactic| refine Mine.Halt.mk ?_)
local macro_rules | `(tactic| walk_at "compareOp Eq") => `(tactic| refine Mine.Halt.mk ?_)
local macro_rules | `(tactic| walk_at "compareOp Eq ref ref") => `(tactic| refine Mine.Halt.mk ?_)
local macro_rules | `(tactic| walk_at "newList") => `(tactic| refine Mine.Halt.mk ?_)
namespace Mine
theorem strs_dat {news : List (Addr × Obj)} {vs : List Value} {xs : List Str} (h : StrsAre vs xs) : DatAll news vs (xs.map Dat.str) := by
  induction h with
  | nil => exact .nil
  | cons x t r ih => exact .cons (.str x t) ih
theorem dat_inj {xs ys : List Str} : xs.map Dat.str = ys.map Dat.str ↔ xs = ys := by
  constructor
  · intro h; exact (List.map_inj_right (fun a b e => by injection e)).mp h
  · rintro rfl; rfl
section
variable {prog : Program} {w : World} {A : Around} {E : Value → Shared → Prop} {s : Shared} {h₀ : Heap} {L a b : Addr} {news : List (Addr × Obj)} {xs ys : List Value} {ka kb : Nat} {us vs : List Str} {Q : Value → Shared → Prop}
theorem eqStrs (N : News h₀ L s.heap news) (ma : (a, listOf xs.toArray ka) ∈ news) (hx : StrsAre xs us) (mb : (b, listOf ys.toArray kb) ∈ news) (hy : StrsAre ys vs) (ha : ∀ u ∈ us, PyData.strOk u = true) (hb : ∀ u ∈ vs, PyData.strOk u = true)
    (hu : A.units + 64 < cLine) (h : Q (.bool (decide (us = vs))) s) : wpAny (model prog w) A (compareOp .Eq (.ref a) (.ref b)) Q E s := by
  refine kqd_eq N ma rfl rfl (strs_dat (news := []) hx) (fun _ h => nomatch h) mb rfl rfl (strs_dat (news := []) hy) (fun _ h => nomatch h) ?_ ?_ hu ?_
  · intro d hd; obtain ⟨u, hu, rfl⟩ := List.mem_map.mp hd; exact ha u hu
  · intro d hd; obtain ⟨u, hu, rfl⟩ := List.mem_map.mp hd; exact hb u hu
  · have e : (us.map Dat.str = vs.map Dat.str) ↔ us = vs := dat_inj
    have e2 : ∀ i : Decidable (us.map Dat.str = vs.map Dat.str), @decide _ i = decide (us = vs) := fun i => by
      by_cases q : us = vs
      · rw [decide_eq_true q]; exact @decide_eq_true _ i (e.mpr q)
      · rw [decide_eq_false q]; exact @decide_eq_false _ i fun z => q (e.mp z)
    rw [e2]
    exact h
theorem neStrs (N : News h₀ L s.heap news) (ma : (a, listOf xs.toArray ka) ∈ news) (hx : StrsAre xs us) (mb : (b, listOf ys.toArray kb) ∈ news) (hy : StrsAre ys vs) (ha : ∀ u ∈ us, PyData.strOk u = true) (hb : ∀ u ∈ vs, PyData.strOk u = true)
    (hu : A.units + 64 < cLine) (h : Q (.bool (!decide (us = vs))) s) : wpAny (model prog w) A (compareOp .NotEq (.ref a) (.ref b)) Q E s := by
  refine kqd_ne N ma rfl rfl (strs_dat (news := []) hx) (fun _ h => nomatch h) mb rfl rfl (strs_dat (news := []) hy) (fun _ h => nomatch h) ?_ ?_ hu ?_
  · intro d hd; obtain ⟨u, hu, rfl⟩ := List.mem_map.mp hd; exact ha u hu
  · intro d hd; obtain ⟨u, hu, rfl⟩ := List.mem_map.mp hd; exact hb u hu
  · have e : (us.map Dat.str = vs.map Dat.str) ↔ us = vs := dat_inj
    have e2 : ∀ i : Decidable (us.map Dat.str = vs.map Dat.str), @decide _ i = decide (us = vs) := fun i => by
      by_cases q : us = vs
      · rw [decide_eq_true q]; exact @decide_eq_true _ i (e.mpr q)
      · rw [decide_eq_false q]; exact @decide_eq_false _ i fun z => q (e.mp z)
    rw [e2]
    exact h
end
/-- the lambda's code table: empty, or with the code made once -/
def TabIn (ps : Array Value) (rest : List (Addr × Obj)) : Prop :=
  ps = #[] ∨ ∃ c' oc vs t, ps = #[rawInt 84, rawInt 37, .ref c'] ∧ (c', oc) ∈ rest ∧ oc.data = .fields vs ∧ vs[1]? = some (.str (Str.ofString "_law_rises.<locals>.<lambda>") t)
def sortS (hs : List Str) : List Str := hs.foldl insS []
theorem withHead {g : Heap} {L : Addr} {h : Heap} {f : Addr} {lam : Obj} {rest : List (Addr × Obj)} {P : Prop} {w : World} (_ : News g L h ((f, lam) :: rest)) (c : Addr) (oc : Obj) (hK : KeyOk w f [(f, lam), (c, oc)]) (k : KeyOk w f [(f, lam), (c, oc)] → P) : P := k hK
theorem StrsAre.app {vs vs' : List Value} {xs xs' : List Str} (h : StrsAre vs xs) (h' : StrsAre vs' xs') : StrsAre (vs ++ vs') (xs ++ xs') := by
  induction h with
  | nil => exact h'
  | cons x t r ih => exact .cons x t ih
theorem StrsAre.tk {vs : List Value} {xs : List Str} (h : StrsAre vs xs) : ∀ k, StrsAre (vs.take k) (xs.take k) := by
  induction h with
  | nil => intro k; simp; exact .nil
  | cons x t r ih => intro k; cases k with
    | zero => exact .nil
    | succ k => exact .cons x t (ih k)
theorem StrsAre.dr {vs : List Value} {xs : List Str} (h : StrsAre vs xs) : ∀ k, StrsAre (vs.drop k) (xs.drop k) := by
  induction h with
  | nil => intro k; simp; exact .nil
  | cons x t r ih => intro k; cases k with
    | zero => exact .cons x t r
    | succ k => exact ih k
theorem ins_strs {vs : List Value} {xs : List Str} (h : StrsAre vs xs) (y : Str) (t : Tok) : StrsAre (insV xs vs y (.str y t)) (insS xs y) := by
  unfold insV insS
  exact StrsAre.app (StrsAre.tk h _) (.cons y t (StrsAre.dr h _))
theorem insS_mem {xs : List Str} {y u : Str} (h : u ∈ insS xs y) : u ∈ xs ∨ u = y := by
  unfold insS at h
  rcases List.mem_append.mp h with z | z
  · exact .inl (List.mem_of_mem_take z)
  · rcases List.mem_cons.mp z with z | z
    · exact .inr z
    · exact .inl (List.mem_of_mem_drop z)
theorem insS_len (xs : List Str) (y : Str) : (insS xs y).length = xs.length + 1 := by
  have := bisR_le (xs.map lastS) (lastS y)
  rw [List.length_map] at this
  unfold insS
  simp; omega
theorem sort_gen : ∀ (l acc : List Str), (∀ u ∈ l.foldl insS acc, u ∈ acc ∨ u ∈ l) ∧ (l.foldl insS acc).length = acc.length + l.length
  | [], acc => ⟨fun _ h => .inl h, rfl⟩
  | y :: l, acc => by
    obtain ⟨h1, h2⟩ := sort_gen l (insS acc y)
    refine ⟨fun u hu => ?_, by rw [List.foldl_cons, h2, insS_len]; simp; omega⟩
    rcases h1 u hu with z | z
    · rcases insS_mem z with z | z
      · exact .inl z
      · exact .inr (by rw [z]; exact .head _)
    · exact .inr (.tail _ z)
theorem sortS_mem {l : List Str} {u : Str} (h : u ∈ sortS l) : u ∈ l := ((sort_gen l []).1 u h).elim (fun z => nomatch z) id
theorem sortS_len (l : List Str) : (sortS l).length = l.length := by have := (sort_gen l []).2; simpa [sortS] using this
theorem sortS_succ (l : List Str) (i : Nat) (hi : i < l.length) : sortS (l.take (i + 1)) = insS (sortS (l.take i)) (l.getD i default) := by
  unfold sortS
  rw [List.take_succ, List.foldl_append]
  simp [hi]
theorem News.third {g : Heap} {L : Addr} {h : Heap} {a b c : Addr × Obj} {rest : List (Addr × Obj)} (N : News g L h (a :: b :: c :: rest)) : News g L h (c :: a :: b :: rest) := fun p hp => N p (by simp at hp ⊢; rcases hp with z | z | z | z <;> simp [z])
theorem News.second {g : Heap} {L : Addr} {h : Heap} {a b : Addr × Obj} {rest : List (Addr × Obj)} (N : News g L h (a :: b :: rest)) : News g L h (b :: a :: rest) := fun p hp => N p (by simp at hp ⊢; rcases hp with z | z | z <;> simp [z])
theorem allLt_mem {d : Nat} : ∀ {l : List (Addr × Obj)}, AllLt d l → ∀ p ∈ l, @LT.lt Nat _ p.1 d
  | [], _, _, h => nomatch h
  | _ :: _, x, p, h => by
    rcases List.mem_cons.mp h with rfl | h
    · exact x.1
    · exact allLt_mem x.2 p h
structure RJ (ps0 : Array Value) (ha ka : Addr) (hvs : List Value) (hs : List Str) (hn : Nat) (rest : List (Addr × Obj)) (i : Nat) (m : Str → Option Value) (nx : List (Addr × Obj)) : Prop where
  out : ∃ ps extra kvs n, nx = (ka, listOf (List.toArray kvs) n) :: (60, tabObj ps) :: (extra ++ rest) ∧ TabIn ps (extra ++ rest) ∧ ((ps = ps0 ∧ extra = []) ∨ TabIn ps extra) ∧ m (Str.ofString "hand") = some (.ref ha) ∧ m (Str.ofString "kept") = some (.ref ka) ∧
    StrsAre kvs (sortS (hs.take i)) ∧ (∀ p ∈ extra, 60 < p.1 ∧ ka < p.1) ∧ (∀ q ∈ rest, q.1 < ka)
end Mine
set_option maxRecDepth 100000 in
set_option maxHeartbeats 8000000 in
theorem rises_c {w : World} {mean : ExcName → Option Value} {mg mb : Str → Option Value} {loose : List Str}
   {dp un : Nat} {gd : Option (List Code)} {cn : Str} {cs : Scope} {a : Addr} {ccd : Value} {cl : List (Str × Addr)} {outer : List Env} {A₀ : Around} {base h₀ : Heap} {L : Addr} {m : Str → Option Value} {ps : Array Value} {rest : List (Addr × Obj)} {s : Shared} {Q E : Value → Shared → Prop}
   (B : Below A₀ base outer h₀) (F : Fr h₀ L s.heap m) (X : (hd.heap_39 w.params).In h₀) (N : News h₀ L s.heap ((60, tabObj ps) :: rest)) (T : Top topProg loose mean mg mb h₀) (hk : cs.kind = .function)
   (CH : CodeHd base 64 60) (htab : TabIn ps rest) (h60 : OwnOff rest [60]) (ha : Addr) (hvs : List Value) (hs : List Str) (hn : Nat) (hst : StrsAre hvs hs) (hmem : (ha, listOf hvs.toArray hn) ∈ rest) (hlen : hs.length ≤ 8) (hok : ∀ u ∈ hs, PyData.strOk u = true) (hne : ∀ u ∈ hs, 0 < u.length) (hdp : dp + 6 < recursionLimit) (hun : un + 200 < cLine)
   (hret : ∀ h' gn tk' ps' extra, (AllBare s.gens → AllBare gn) → Fr h₀ L h' m → News h₀ L h' ((60, tabObj ps') :: (extra ++ rest)) → ((ps' = ps ∧ extra = []) ∨ TabIn ps' extra) → (∀ p ∈ extra, 60 < p.1 ∧ ∀ q ∈ rest, q.1 < p.1) → Q (.bool (decide (sortS hs = hs))) { s with heap := h', gens := gn, toks := tk' }) :
   wpAny (model PySem.Challenge.rw_pg0087_01.row.prog w) (ktrTop dp un gd cn cs L a ccd cl outer) (call (.ref 65) [.ref ha]) Q E s := by
  revert X
  k_fill
  intro X
  refine wpAny_call ?_
  k_dflt (first | (refine' code_def ?k1 ?k2 ?k3 ?k4 ?k5 ?kA ?kF ?kK ?k6 ?k7 ?k8 ?k9 ?kB ?_ ?c2 ?c3 ?c4 ?c5; (case kA => exact rfl); (case kF => exact rfl); (case kK => assumption); (case k1 => k_asm); (case k2 => k_asm); (case k3 => k_asm); (case k4 => k_asm); (case k5 => k_asm); (case k6 => k_is); (case k7 => k_is); (case k8 => ktr_room); (case k9 => first | exact BindsTo.of_eq rfl | exact binds_K (by k_in) rfl (by k_is) rfl rfl rfl | (refine' kp_binds ?kx ?ke; (case kx => k_in); (case ke => exact fun _ => rfl))); (case c5 => decide); (case kB => exact locs rfl); (case c2 => exact rfl); (case c3 => exact rfl); (case c4 => exact rfl); k_whole) | (refine' code_defC ?k1 ?k2 ?k3 ?k4 ?k5 ?kA ?kF ?kK ?k6 ?k7 ?k8 ?k9 ?kB ?kD ?_ ?c2 ?c3 ?c4; (case kA => exact rfl); (case kF => exact rfl); (case kK => assumption); (case k1 => k_asm); (case k2 => k_asm); (case k3 => k_asm); (case k4 => k_asm); (case k5 => k_asm); (case k6 => k_is); (case k7 => k_is); (case k8 => ktr_room); (case k9 => first | exact BindsTo.of_eq rfl | exact binds_K (by k_in) rfl (by k_is) rfl rfl rfl | (refine' kp_binds ?kx ?ke; (case kx => k_in); (case ke => exact fun _ => rfl))); (case kB => exact rfl); (case kD => decide +kernel); (case c2 => exact rfl); (case c3 => exact rfl); (case c4 => exact rfl); k_whole))
  intro g1 L1 h1 FG1 F1 N1 B1 X1 T1
  (try dsimp only); (try k_lift B1); (try k_fold)
  k_steps
  refine Halt.go (newList_K F1 N1 fun ka h2 F2 N2 hlt => ?_)
  k_steps
  refine Halt.go (forSrc ?_)
  k_steps
  have hka : (60 : Nat) < ka := hlt _ (.head _)
  refine forList (base := g1) (x := _) (its := hvs) (news := _) rfl rfl rfl (by assumption) (by assumption) (RJ ps ha ka hvs hs hn rest) ?_ ?_ ?_ ?_
  · exact ⟨ps, [], [], 0, rfl, htab, .inl ⟨rfl, rfl⟩, rfl, rfl, .nil, (fun _ h => by cases h), fun q hq => hlt q (.tail _ hq)⟩
  · rintro i m' nx ⟨_, _, _, _, rfl, _⟩
    exact ⟨hn, .tail _ (.tail _ (List.mem_append.mpr (.inr hmem)))⟩
  · intro i v m₁ news₁ h gn tk own E' hv hJ hoff F4 N4
    obtain ⟨ps1, extra, kvs, n, rfl, htab1, htab2, e1, e2, hkv, hex, hrk⟩ := hJ
    obtain ⟨rest0, hrest0⟩ : ∃ r0, r0 = extra ++ rest ++ own := ⟨_, rfl⟩
    rw [List.cons_append, List.cons_append, ← hrest0] at N4
    have hoff0 : OwnOff rest0 [ka, 60] := by
      intro q hq b hb
      rw [hrest0] at hq
      rcases List.mem_append.mp hq with hq | hq
      · rcases List.mem_append.mp hq with hq | hq
        · have := hex q hq
          rcases List.mem_cons.mp hb with rfl | hb
          · exact Nat.ne_of_gt this.2
          · rw [List.mem_singleton.mp hb]; exact Nat.ne_of_gt this.1
        · rcases List.mem_cons.mp hb with rfl | hb
          · exact Nat.ne_of_lt (hrk q hq)
          · rw [List.mem_singleton.mp hb]; exact h60 q hq 60 (.head _)
      · rcases List.mem_cons.mp hb with rfl | hb
        · exact hoff q hq _ (.head _)
        · rw [List.mem_singleton.mp hb]; exact hoff q hq 60 (.tail _ (.head _))
    have hi : i < hs.length := by
      have := (List.getElem?_eq_some_iff.mp hv).1
      rw [hst.length] at this; exact this
    have hmem_i : hs.getD i default ∈ hs := by simp [List.getD, hi]
    have hxs8 : (sortS (hs.take i)).length ≤ 8 := by rw [sortS_len]; simp; omega
    have hxne : ∀ y ∈ sortS (hs.take i), 0 < y.length := fun y hy => hne y (List.mem_of_mem_take (sortS_mem hy))
    obtain ⟨tv, hv'⟩ := strs_at hst i hi
    rw [hv] at hv'
    cases hv'
    have F5 := Fr.put F4 [(Str.ofString "unit", _), (Str.ofString "hand", _), (Str.ofString "kept", _)] ⟨rfl, e1, e2, trivial⟩
    simp only [putM] at F5
    change Fr g1 L1 h _ at F5
    change News g1 L1 h _ at N4
    clear F4
    rcases htab1 with rfl | ⟨c0, oc0, vs0, t0, rfl, hc0, hd0, hv0⟩
    · k_steps
      rename_i f' c0 oc0 vs0 t0 ct0 h' tk' F' N' hd0 hv0 l1 l2
      refine withHead (w := w) N' c0 oc0 ⟨⟨_, _, _, _, .head _⟩, ?_⟩ fun K => ?_
      · k_fill
        intro mean mg mb loose dp un gd cn cs a ccd cl outer A₀ base h₀ L m news s Q E B F X N T hk hks hdp hun y t hy hret
        have hk1 := hks _ (.head _)
        have hk2 := hks _ (.tail _ (.head _))
        clear hks
        refine wpAny_call ?_
        k_dflt (refine' kla_code ?k1 ?k2 ?k3 ?k4 ?k5 ?kA ?kF ?kK ?k6 ?k7 ?k8 ?k9 ?kB ?_ ?c2 ?c3 ?c4 ?c5; (case kA => exact rfl); (case kF => exact rfl); (case kK => assumption); (case k1 => k_asm); (case k2 => k_asm); (case k3 => k_asm); (case k4 => k_asm); (case k5 => k_asm); (case k6 => assumption); (case k7 => exact codeRec_news (by k_asm) (by assumption) (by assumption) (by assumption)); (case k8 => ktr_room); (case k9 => exact rfl); (case c5 => decide); (case kB => exact locs rfl); (case c2 => exact rfl); (case c3 => exact rfl); (case c4 => exact rfl); k_whole)
        intro g1 L1 h1 FG1 F1 N1 B1 X1 T1
        (try dsimp only); (try k_lift B1); (try k_fold)
        k_steps
        exact hret _ _ _ (by assumption) (by assumption)
      obtain ⟨l3, l4, l5⟩ := l1
      refine Halt.go (insort_c kvs _ hkv ka n B1 F' X1 (News.third N') T1 rfl ?_ _ _ f' _ K ?_ hxne (hne _ hmem_i) hxs8 (by ktr_room) (by ktr_room) fun h6 tk6 F6 N6 => ?_)
      · intro q hq b hb
        rw [List.mem_singleton.mp hb]
        rcases List.mem_cons.mp hq with rfl | hq
        · exact Nat.ne_of_gt (Nat.lt_trans l3 l2)
        · rcases List.mem_cons.mp hq with rfl | hq
          · exact Nat.ne_of_gt l3
          · rcases List.mem_cons.mp hq with rfl | hq
            · exact Nat.ne_of_lt hka
            · exact hoff0 q hq ka (.head _)
      · intro p hp
        rcases List.mem_cons.mp hp with rfl | hp
        · exact .head _
        · rw [List.mem_singleton.mp hp]; exact .tail _ (.head _)
      · k_steps
        refine ⟨h6, gn, tk6, _, _, (ka, listOf (insV (sortS (hs.take i)) kvs (hs.getD i default) (.str (hs.getD i default) tv)).toArray (n + 1)) :: (60, tabObj #[rawInt 84, rawInt 37, .ref c0]) :: (((c0, oc0) :: extra) ++ rest), rfl, id, F6, N6, ?_, ?_, ?_, ⟨_, ((c0, oc0) :: extra), _, _, rfl, .inr ⟨c0, oc0, vs0, t0, rfl, .head _, hd0, hv0⟩, .inr (.inr ⟨c0, oc0, vs0, t0, rfl, .head _, hd0, hv0⟩), rfl, rfl, ?_, ?_, hrk⟩⟩
        · intro q hq
          rcases List.mem_cons.mp hq with rfl | hq
          · exact .head _
          · refine .tail _ ?_
            rcases List.mem_cons.mp hq with rfl | hq
            · exact .tail _ (.tail _ (.head _))
            · rcases List.mem_cons.mp hq with rfl | hq
              · exact .tail _ (.head _)
              · exact .tail _ (.tail _ (.tail _ (by rw [hrest0]; exact List.mem_append.mpr (.inl hq))))
        · intro q hq
          exact .tail _ ((List.Mem.tail _ <| List.Mem.tail _ <| List.Mem.tail _ <| show q ∈ rest0 from by rw [hrest0]; exact List.mem_append.mpr (.inr hq)))
        · intro q hq b hb
          have hq0 : q ∈ rest0 := by rw [hrest0]; exact List.mem_append.mpr (.inr hq)
          rcases List.mem_cons.mp hb with rfl | hb
          · exact hoff0 q hq0 _ (.head _)
          · rcases List.mem_cons.mp hb with rfl | hb
            · exact hoff0 q hq0 _ (.tail _ (.head _))
            · rcases List.mem_cons.mp hb with rfl | hb
              · exact Nat.ne_of_lt (allLt_mem l5 q hq0)
              · exact hoff q hq b (.tail _ (.tail _ hb))
        · rw [sortS_succ _ _ hi]
          exact ins_strs hkv _ _
        · intro p hp
          rcases List.mem_cons.mp hp with rfl | hp
          · exact ⟨l4, l3⟩
          · exact hex p hp
    · have hc1 : (c0, oc0) ∈ rest0 := by
        rw [hrest0]; exact List.mem_append.mpr (.inl hc0)
      k_steps
      rename_i f' ct0 h' tk' F' N' l1
      refine withHead (w := w) N' c0 oc0 ⟨⟨_, _, _, _, .head _⟩, ?_⟩ fun K => ?_
      · k_fill
        intro mean mg mb loose dp un gd cn cs a ccd cl outer A₀ base h₀ L m news s Q E B F X N T hk hks hdp hun y t hy hret
        have hk1 := hks _ (.head _)
        have hk2 := hks _ (.tail _ (.head _))
        clear hks
        refine wpAny_call ?_
        k_dflt (refine' kla_code ?k1 ?k2 ?k3 ?k4 ?k5 ?kA ?kF ?kK ?k6 ?k7 ?k8 ?k9 ?kB ?_ ?c2 ?c3 ?c4 ?c5; (case kA => exact rfl); (case kF => exact rfl); (case kK => assumption); (case k1 => k_asm); (case k2 => k_asm); (case k3 => k_asm); (case k4 => k_asm); (case k5 => k_asm); (case k6 => assumption); (case k7 => exact codeRec_news (by k_asm) (by assumption) (by assumption) (by assumption)); (case k8 => ktr_room); (case k9 => exact rfl); (case c5 => decide); (case kB => exact locs rfl); (case c2 => exact rfl); (case c3 => exact rfl); (case c4 => exact rfl); k_whole)
        intro g1 L1 h1 FG1 F1 N1 B1 X1 T1
        (try dsimp only); (try k_lift B1); (try k_fold)
        k_steps
        exact hret _ _ _ (by assumption) (by assumption)
      obtain ⟨l3, l4, l5⟩ := l1
      refine Halt.go (insort_c kvs _ hkv ka n B1 F' X1 (News.second N') T1 rfl ?_ _ _ f' _ K ?_ hxne (hne _ hmem_i) hxs8 (by ktr_room) (by ktr_room) fun h6 tk6 F6 N6 => ?_)
      · intro q hq b hb
        rw [List.mem_singleton.mp hb]
        rcases List.mem_cons.mp hq with rfl | hq
        · exact Nat.ne_of_gt l3
        · rcases List.mem_cons.mp hq with rfl | hq
          · exact Nat.ne_of_lt hka
          · exact hoff0 q hq ka (.head _)
      · intro p hp
        rcases List.mem_cons.mp hp with rfl | hp
        · exact .head _
        · rw [List.mem_singleton.mp hp]; exact .tail _ (.tail _ hc1)
      · k_steps
        refine ⟨h6, gn, tk6, _, _, (ka, listOf (insV (sortS (hs.take i)) kvs (hs.getD i default) (.str (hs.getD i default) tv)).toArray (n + 1)) :: (60, tabObj #[rawInt 84, rawInt 37, .ref c0]) :: (extra ++ rest), rfl, id, F6, N6, ?_, ?_, ?_, ⟨_, extra, _, _, rfl, .inr ⟨c0, oc0, vs0, t0, rfl, hc0, hd0, hv0⟩, htab2, rfl, rfl, ?_, ?_, hrk⟩⟩
        · intro q hq
          rcases List.mem_cons.mp hq with rfl | hq
          · exact .head _
          · refine .tail _ ?_
            rcases List.mem_cons.mp hq with rfl | hq
            · exact .tail _ (.head _)
            · exact .tail _ (.tail _ (by rw [hrest0]; exact List.mem_append.mpr (.inl hq)))
        · intro q hq
          exact .tail _ ((List.Mem.tail _ <| List.Mem.tail _ <| show q ∈ rest0 from by rw [hrest0]; exact List.mem_append.mpr (.inr hq)))
        · intro q hq b hb
          have hq0 : q ∈ rest0 := by rw [hrest0]; exact List.mem_append.mpr (.inr hq)
          rcases List.mem_cons.mp hb with rfl | hb
          · exact hoff0 q hq0 _ (.head _)
          · rcases List.mem_cons.mp hb with rfl | hb
            · exact hoff0 q hq0 _ (.tail _ (.head _))
            · exact hoff q hq b (.tail _ (.tail _ hb))
        · rw [sortS_succ _ _ hi]
          exact ins_strs hkv _ _
        · exact hex
  · intro m₁ news₁ h gn tk hJ F4 N4 hbr
    obtain ⟨ps1, extra, kvs, n, rfl, htab1, htab2, e1, e2, hkv, hex, hrk⟩ := hJ
    have hvl : hvs.length = hs.length := hst.length
    rw [hvl, List.take_length] at hkv
    have F5 := Fr.put F4 [(Str.ofString "hand", _), (Str.ofString "kept", _)] ⟨e1, e2, trivial⟩
    simp only [putM] at F5
    change Fr g1 L1 h _ at F5
    change News g1 L1 h _ at N4
    clear F4
    try dsimp only
    k_steps
    refine Halt.go (eqStrs N4 (.head _) hkv (.tail _ (.tail _ (List.mem_append.mpr (.inr hmem)))) hst (fun u hu => hok u (sortS_mem hu)) hok (by ktr_units) ?_)
    dsimp only
    k_steps
    refine hret _ gn _ ps1 extra hbr (by assumption) (fun q hq => (by assumption : News h₀ L _ (_ :: _ :: _)) q (.tail _ hq)) htab2 (fun p hp => ⟨(hex p hp).1, fun q hq => Nat.lt_trans (hrk q hq) (hex p hp).2⟩)
end
end
section
open PySem PySem.W PyProof.Rows PySem.Calls PySem.Spec
namespace Mine
/-- the end of a comprehension's turn: what was known still stands -/
def TEnd (h₀ : Heap) (L : Addr) (m : Str → Option Value) (keep : List (Addr × Obj)) (P : Prop) (s s₂ : Shared) : Prop :=
  ∃ h' tk' all, s₂ = { s with heap := h', toks := tk' } ∧ Fr h₀ L h' m ∧ News h₀ L h' all ∧ (∀ p ∈ keep, p ∈ all) ∧ P
section
variable {prog : Program} {w : World} {A : Around} {s : Shared} {h₀ : Heap} {L : Addr} {m : Str → Option Value} {env : Env}
theorem restU {elt : Expr} {x : Str} {scope : Scope} {cl : List (Str × Addr)} {S : List (Addr × Obj) → Prop} {P : Nat → Value → Prop} {Fin : List Value → List (Addr × Obj) → Prop} {news : List (Addr × Obj)} {n : Nat} (J : Nat → List Value → Prop) (hS : S news)
    (turn : ∀ i ys v I oI C oC D m₂ h tk (E' : Value → Shared → Prop), i < n → J i ys → ys.length ≤ i → P i v → LCg.NsObj oC m₂ → m₂ x = some v → Fr h₀ L h m → News h₀ L h ((I, oI) :: (C, oC) :: (D, LCg.lst ys) :: news) → LCg.Off3 I C D news → ((@Ne Nat I C) ∧ (@Ne Nat I D) ∧ (@Ne Nat C D)) →
      wpAny (model prog w) A (eval elt (compEnvC scope cl C env)) (fun y s₂ => TEnd h₀ L m ((I, oI) :: (C, oC) :: (D, LCg.lst ys) :: news) (J (i + 1) (ys ++ [y])) { s with heap := h, toks := tk } s₂) E' { s with heap := h, toks := tk })
    (fin : ∀ ys, J n ys → ys.length ≤ n → Fin ys news) : ∀ k i ys, i + k = n → J i ys → ys.length ≤ i → LCg.CompRest prog w A h₀ L m env elt x scope cl s S P Fin k i ys news
  | 0, i, ys, e, hJ, hl => LCg.CompRest.zero (fin ys (by rw [← e]; exact hJ) (by omega))
  | k + 1, i, ys, e, hJ, hl => LCg.CompRest.succ fun v I oI C oC D m₂ h tk E' a1 a2 a3 a4 a5 a6 a7 =>
      wpAny_mono (turn i ys v I oI C oC D m₂ h tk E' (by omega) hJ hl a1 a2 a3 a4 a5 a6 a7) (fun y s₂ z => by
        obtain ⟨h', tk', all, rfl, F, N, sub, hP⟩ := z
        exact LCg.CompEnd.intro F N news sub a6 hS (restU J hS turn fin k (i + 1) (ys ++ [y]) (by omega) hP (by simp; omega))) fun _ _ e => e
theorem restT {ct elt : Expr} {x : Str} {scope : Scope} {cl : List (Str × Addr)} {S : List (Addr × Obj) → Prop} {P : Nat → Value → Prop} {Fin : List Value → List (Addr × Obj) → Prop} {news : List (Addr × Obj)} {n : Nat} (J : Nat → List Value → Prop) (hS : S news)
    (turn : ∀ i ys v I oI C oC D m₂ h tk (E' : Value → Shared → Prop), i < n → J i ys → ys.length ≤ i → P i v → LCg.NsObj oC m₂ → m₂ x = some v → Fr h₀ L h m → News h₀ L h ((I, oI) :: (C, oC) :: (D, LCg.lst ys) :: news) → LCg.Off3 I C D news → ((@Ne Nat I C) ∧ (@Ne Nat I D) ∧ (@Ne Nat C D)) →
      wpAny (model prog w) A (isTrue ct (compEnvC scope cl C env) (eval ct (compEnvC scope cl C env))) (fun ok s' => if ok = true then
        wpAny (model prog w) A (eval elt (compEnvC scope cl C env)) (fun y s₂ => TEnd h₀ L m ((I, oI) :: (C, oC) :: (D, LCg.lst ys) :: news) (J (i + 1) (ys ++ [y])) { s with heap := h, toks := tk } s₂) E' s'
        else TEnd h₀ L m ((I, oI) :: (C, oC) :: (D, LCg.lst ys) :: news) (J (i + 1) ys) { s with heap := h, toks := tk } s') E' { s with heap := h, toks := tk })
    (fin : ∀ ys, J n ys → ys.length ≤ n → Fin ys news) : ∀ k i ys, i + k = n → J i ys → ys.length ≤ i → LCt.CompRestT prog w A h₀ L m env ct elt x scope cl s S P Fin k i ys news
  | 0, i, ys, e, hJ, hl => LCt.CompRestT.zero (fin ys (by rw [← e]; exact hJ) (by omega))
  | k + 1, i, ys, e, hJ, hl => LCt.CompRestT.succ fun v I oI C oC D m₂ h tk E' a1 a2 a3 a4 a5 a6 a7 =>
      wpAny_mono (turn i ys v I oI C oC D m₂ h tk E' (by omega) hJ hl a1 a2 a3 a4 a5 a6 a7) (fun ok s' z => by
        cases ok with
        | true =>
          simp only [if_true] at z ⊢
          refine wpAny_mono z (fun y s₂ z => ?_) fun _ _ e => e
          obtain ⟨h', tk', all, rfl, F, N, sub, hP⟩ := z
          exact LCg.CompEnd.intro F N news sub a6 hS (restT J hS turn fin k (i + 1) (ys ++ [y]) (by omega) hP (by simp; omega))
        | false =>
          simp only [Bool.false_eq_true, if_false] at z ⊢
          obtain ⟨h', tk', all, rfl, F, N, sub, hP⟩ := z
          exact LCg.CompEnd.intro F N news sub a6 hS (restT J hS turn fin k (i + 1) ys (by omega) hP (by omega))) fun _ _ e => e
end
end Mine
end
section
open PySem PySem.W PyProof.Rows PySem.Calls PySem.Spec
namespace Mine
def Str.lt' (x y : Str) : Bool := decide (x.cps.toList < y.cps.toList)
def maxS (xs : List Str) : Str := xs.getD (argBest (fun i j => decide ((xs.getD j default).cps.toList < (xs.getD i default).cps.toList)) (xs.length - 1)) default
def minS (xs : List Str) : Str := xs.getD (argBest (fun i j => decide ((xs.getD i default).cps.toList < (xs.getD j default).cps.toList)) (xs.length - 1)) default
theorem strs_get {vs : List Value} {xs : List Str} (h : StrsAre vs xs) : ∀ (i : Nat) (v : Value), vs[i]? = some v → ∃ t, v = .str (xs.getD i default) t := by
  induction h with
  | nil => intro i v h; simp at h
  | cons x t r ih =>
    intro i v hi
    cases i with
    | zero => simp at hi; subst hi; exact ⟨t, rfl⟩
    | succ i => obtain ⟨t, e⟩ := ih i v (by simpa using hi); exact ⟨t, by simpa using e⟩
theorem ints_at {vs : List Value} {xs : List Int} (h : IntsAre vs xs) (i : Nat) (hi : i < xs.length) : ∃ t, vs[i]? = some (.int (xs.getD i 0) t) := by
  obtain ⟨t, e⟩ := h.get i (xs.getD i 0) (by simp [List.getD, hi])
  exact ⟨t, e⟩
theorem ints_snoc {vs : List Value} {xs : List Int} (h : IntsAre vs xs) (y : Int) (t : Tok) : IntsAre (vs ++ [.int y t]) (xs ++ [y]) := h.append (.cons y t .nil)
section
variable {prog : Program} {w : World} {A : Around} {E : Value → Shared → Prop} {s : Shared} {h₀ : Heap} {L l : Addr} {m : Str → Option Value} {news : List (Addr × Obj)} {vs : List Value}
theorem kept_it {h' : Heap} {o : Obj} (hk : ∀ b x, b ∉ [s.heap.objs.size] → (s.heap.push o).get? b = some x → h'.get? b = some x) : ∀ b x, s.heap.get? b = some x → h'.get? b = some x :=
  fun b x e => hk b x (fun hm => by rw [List.mem_singleton.mp hm] at e; exact Nat.lt_irrefl _ (Heap.lt_size e)) (Heap.get?_push_of_some _ e)
theorem max_strs {xs : List Str} {n : Nat} {Q : Value → Shared → Prop} (hh : A.handled = none) (F : Fr h₀ L s.heap m) (N : News h₀ L s.heap news) (hl : (l, listOf vs.toArray n) ∈ news) (hi : StrsAre vs xs) (hne : 0 < xs.length)
    (h : ∀ h' tk t', Fr h₀ L h' m → News h₀ L h' news → Q (.str (maxS xs) t') { s with heap := h', toks := tk }) : wpAny (model prog w) A (call (.builtin "max") [.ref l]) Q E s := by
  have hl := N.isList hl
  have hlt : l < s.heap.objs.size := by obtain ⟨_, e, _⟩ := hl; exact Heap.lt_size e
  refine call_max_walk (wpAny_pyIter_list hl ?_)
  refine ⟨s.heap.objs.size, [s.heap.objs.size, l], [s.heap.objs.size], vs.toArray.size, _, _, fun i j => decide ((xs.getD j default).cps.toList < (xs.getD i default).cps.toList), rfl, Walks.list (A := A.in1) hh _ l (Nat.ne_of_lt hlt) vs.toArray,
    ⟨⟨_, Heap.get?_push_size _ rfl, rfl, rfl⟩, hl.push _⟩, fun b hb => ?_, ?_, ?_, fun v h' tk hP hk => ?_⟩
  · show b < (s.heap.push _).objs.size
    rw [Heap.size_push]
    rcases List.mem_cons.mp hb with rfl | hb
    · exact Nat.lt_succ_self _
    · rw [List.mem_singleton.mp hb]; exact Nat.lt_succ_of_lt hlt
  · rw [List.size_toArray, hi.length]; exact hne
  · intro i j vi vj s Q E h1 h2 hQ
    obtain ⟨t, rfl⟩ := strs_get hi i vi (by simpa using h1)
    obtain ⟨u, rfl⟩ := strs_get hi j vj (by simpa using h2)
    exact PySem.P.gt_str hQ
  · have hP' : vs[argBest (fun i j => decide ((xs.getD j default).cps.toList < (xs.getD i default).cps.toList)) (vs.toArray.size - 1)]? = some v := by rw [← List.getElem?_toArray]; exact hP
    obtain ⟨t, rfl⟩ := strs_get hi _ v hP'
    rw [List.size_toArray, hi.length]
    exact h h' tk t (F.keeps (kept_it hk)) (N.grown (kept_it hk))
theorem min_strs {xs : List Str} {n : Nat} {Q : Value → Shared → Prop} (hh : A.handled = none) (F : Fr h₀ L s.heap m) (N : News h₀ L s.heap news) (hl : (l, listOf vs.toArray n) ∈ news) (hi : StrsAre vs xs) (hne : 0 < xs.length)
    (h : ∀ h' tk t', Fr h₀ L h' m → News h₀ L h' news → Q (.str (minS xs) t') { s with heap := h', toks := tk }) : wpAny (model prog w) A (call (.builtin "min") [.ref l]) Q E s := by
  have hl := N.isList hl
  have hlt : l < s.heap.objs.size := by obtain ⟨_, e, _⟩ := hl; exact Heap.lt_size e
  refine call_min_walk (wpAny_pyIter_list hl ?_)
  refine ⟨s.heap.objs.size, [s.heap.objs.size, l], [s.heap.objs.size], vs.toArray.size, _, _, fun i j => decide ((xs.getD i default).cps.toList < (xs.getD j default).cps.toList), rfl, Walks.list (A := A.in1) hh _ l (Nat.ne_of_lt hlt) vs.toArray,
    ⟨⟨_, Heap.get?_push_size _ rfl, rfl, rfl⟩, hl.push _⟩, fun b hb => ?_, ?_, ?_, fun v h' tk hP hk => ?_⟩
  · show b < (s.heap.push _).objs.size
    rw [Heap.size_push]
    rcases List.mem_cons.mp hb with rfl | hb
    · exact Nat.lt_succ_self _
    · rw [List.mem_singleton.mp hb]; exact Nat.lt_succ_of_lt hlt
  · rw [List.size_toArray, hi.length]; exact hne
  · intro i j vi vj s Q E h1 h2 hQ
    obtain ⟨t, rfl⟩ := strs_get hi i vi (by simpa using h1)
    obtain ⟨u, rfl⟩ := strs_get hi j vj (by simpa using h2)
    exact PyProof.Rows.lt_str hQ
  · have hP' : vs[argBest (fun i j => decide ((xs.getD i default).cps.toList < (xs.getD j default).cps.toList)) (vs.toArray.size - 1)]? = some v := by rw [← List.getElem?_toArray]; exact hP
    obtain ⟨t, rfl⟩ := strs_get hi _ v hP'
    rw [List.size_toArray, hi.length]
    exact h h' tk t (F.keeps (kept_it hk)) (N.grown (kept_it hk))

theorem takeV {value slice : Expr} {k : Int} {n c : Nat} {u : Tok} {Q : Value → Shared → Prop} (F : Fr h₀ L s.heap m) (N : News h₀ L s.heap news) (hl : (l, listOf vs.toArray c) ∈ news) (hk : k = (n : Int)) (hz : vs.length ≤ 1000)
    (h : ∀ D h', Fr h₀ L h' m → News h₀ L h' ((D, listOf (List.toArray (vs.take n)) 0) :: news) → (∀ p ∈ news, p.1 < D) → Q (.ref D) { s with heap := h' })
    (hs : subscripted slice false (.ref l) (.ref s.heap.objs.size) = operate [.ref s.heap.objs.size, .ref l] (getItem (.ref l) (.ref s.heap.objs.size)) := by with_unfolding_all rfl) (ht : ∀ r, letTemporaryGo value (.ref l) r = pure () := by (intro _; with_unfolding_all rfl)) :
    wpAny (model prog w) A (subscriptTail value slice (.ref l) (.ref s.heap.objs.size)) Q E { s with heap := s.heap.push { cls := .type "slice", data := .fields #[.none, .int k u, .none] } } := by
  refine kmk_slice F N (N.isList hl) .none (.int _ _) (fun D h' F' N' hlt => h D h' F' ?_ hlt) hs ht (by simp [sizeLine]; omega)
  have e : sliceBounds none (some k) none vs.toArray.size = (((0 : Nat) : Int), ((min k.toNat vs.toArray.size : Nat) : Int), 1) := by
    simp only [sliceBounds, Option.getD_none, show (1 : Int) > 0 by decide, if_true, if_neg (show ¬ (k < 0) by omega)]
    congr 1
    congr 1
    omega
  rw [kmk_pick_nat _ e, show vs.toArray.toList = vs from rfl, List.drop_zero, Nat.sub_zero, List.size_toArray, kmk_take_min, hk, Int.toNat_natCast] at N'
  exact N'
theorem dropV {value slice : Expr} {k : Int} {n c : Nat} {u : Tok} {Q : Value → Shared → Prop} (F : Fr h₀ L s.heap m) (N : News h₀ L s.heap news) (hl : (l, listOf vs.toArray c) ∈ news) (hk : k = (n : Int)) (hz : vs.length ≤ 1000)
    (h : ∀ D h', Fr h₀ L h' m → News h₀ L h' ((D, listOf (List.toArray (vs.drop n)) 0) :: news) → (∀ p ∈ news, p.1 < D) → Q (.ref D) { s with heap := h' })
    (hs : subscripted slice false (.ref l) (.ref s.heap.objs.size) = operate [.ref s.heap.objs.size, .ref l] (getItem (.ref l) (.ref s.heap.objs.size)) := by with_unfolding_all rfl) (ht : ∀ r, letTemporaryGo value (.ref l) r = pure () := by (intro _; with_unfolding_all rfl)) :
    wpAny (model prog w) A (subscriptTail value slice (.ref l) (.ref s.heap.objs.size)) Q E { s with heap := s.heap.push { cls := .type "slice", data := .fields #[.int k u, .none, .none] } } := by
  refine kmk_slice F N (N.isList hl) (.int _ _) .none (fun D h' F' N' hlt => h D h' F' ?_ hlt) hs ht (by simp [sizeLine]; omega)
  have e : sliceBounds (some k) none none vs.toArray.size = (((min k.toNat vs.toArray.size : Nat) : Int), ((vs.toArray.size : Nat) : Int), 1) := by
    simp only [sliceBounds, Option.getD_none, show (1 : Int) > 0 by decide, if_true, if_neg (show ¬ (k < 0) by omega)]
    congr 1
    omega
  rw [kmk_pick_nat _ e, show vs.toArray.toList = vs from rfl, List.size_toArray, kmk_drop_min, List.take_of_length_le (by rw [List.length_drop]; omega), hk, Int.toNat_natCast] at N'
  exact N'
end
end Mine
end
section
theorem fresh_N7 : True := by
  w_top off
  trivial
open PySem.W.X (SegX)
open PySem PySem.W PyProof.Rows PySem.Calls PySem.Spec

open Mine
section
local macro_rules | `(tactic| walk_at "exec For Name Name cons nil") => `(tactic| refine Mine.Halt.mk ?_)
local macro_rules | `(tactic| walk_at "call ref cons nil") => `(tactic| refine Mine.Halt.mk ?_)
local macro_rules | `(tactic| walk_at "call ref") => `(tactic| refine Mine.Halt.mk ?_)
local macro_rules | `(tactic| walk_at "CompSrcT") => `(tactic| refine Mine.Halt.mk ?_)
local macro_rules | `(tactic| walk_at "newList") => `(tactic| refine Mine.Halt.mk ?_)
namespace Mine
def bumpGo : List (List Str) → Str → List (List Str)
  | [], _ => []
  | r :: rs, s => if bisR r s = r.length then (r ++ [s]) :: rs else r.set (bisR r s) s :: bumpGo rs (r.getD (bisR r s) default)
def bump (rs : List (List Str)) (s : Str) : List (List Str) := bumpGo (rs ++ [[]]) s
def rowsS (word : List Str) : List (List Str) := word.foldl bump []
inductive RowsO : List (Addr × Obj) → List (List Str) → Prop
  | nil : RowsO [] []
  | cons {a : Addr} {vs : List Value} {n : Nat} {r : List Str} {ro : List (Addr × Obj)} {rs : List (List Str)} : StrsAre vs r → RowsO ro rs → RowsO ((a, listOf vs.toArray n) :: ro) (r :: rs)
theorem bumpGo_len (k : Nat) : ∀ (rs : List (List Str)) (s : Str), (∀ r ∈ rs, r.length ≤ k) → (∀ r ∈ bumpGo rs s, r.length ≤ k + 1) ∧ (bumpGo rs s).length = rs.length
  | [], _, _ => ⟨fun _ h => (nomatch h), rfl⟩
  | r :: rs, s, h => by
    simp only [bumpGo]
    have h0 := h r (.head _)
    split
    · refine ⟨fun x hx => ?_, by simp⟩
      rcases List.mem_cons.mp hx with rfl | hx
      · simp; omega
      · exact Nat.le_succ_of_le (h x (.tail _ hx))
    · obtain ⟨h1, h2⟩ := bumpGo_len k rs (r.getD (bisR r s) default) fun x hx => h x (.tail _ hx)
      refine ⟨fun x hx => ?_, by rw [List.length_cons, h2, List.length_cons]⟩
      rcases List.mem_cons.mp hx with rfl | hx
      · simp; omega
      · exact h1 x hx
theorem rowsS_len : ∀ (l : List Str) (acc : List (List Str)) (k : Nat), (∀ r ∈ acc, r.length ≤ k) → (∀ r ∈ l.foldl bump acc, r.length ≤ k + l.length) ∧ (l.foldl bump acc).length = acc.length + l.length
  | [], acc, k, h => ⟨h, rfl⟩
  | y :: l, acc, k, h => by
    obtain ⟨h1, h2⟩ := bumpGo_len k (acc ++ [[]]) y fun x hx => by
      rcases List.mem_append.mp hx with z | z
      · exact h x z
      · rw [List.mem_singleton.mp z]; exact Nat.zero_le _
    obtain ⟨h3, h4⟩ := rowsS_len l (bump acc y) (k + 1) h1
    refine ⟨fun r hr => by have := h3 r hr; simp; omega, ?_⟩
    rw [List.foldl_cons, h4]
    unfold bump
    rw [h2]; simp; omega
theorem RowsO.len : ∀ {ro : List (Addr × Obj)} {rs : List (List Str)}, RowsO ro rs → ro.length = rs.length
  | _, _, .nil => rfl
  | _, _, .cons _ h => by simp [h.len]
theorem RowsO.snoc {a : Addr} {vs : List Value} {n : Nat} {r : List Str} (hv : StrsAre vs r) : ∀ {ro : List (Addr × Obj)} {rs : List (List Str)}, RowsO ro rs → RowsO (ro ++ [(a, listOf vs.toArray n)]) (rs ++ [r])
  | _, _, .nil => .cons hv .nil
  | _, _, .cons h t => .cons h (t.snoc hv)
theorem RowsO.split : ∀ {ro : List (Addr × Obj)} {rs : List (List Str)}, RowsO ro rs → ∀ j a, (ro.map (·.1))[j]? = some a → ∃ pre vs n post r, ro = pre ++ (a, listOf (List.toArray vs) n) :: post ∧ pre.length = j ∧ rs[j]? = some r ∧ StrsAre vs r ∧
    ∀ vs' r' n', StrsAre vs' r' → RowsO (pre ++ (a, listOf (List.toArray vs') n') :: post) (rs.set j r')
  | _, _, .nil, j, a, h => by simp at h
  | _, _, .cons (a := b) (vs := vs) (n := n) (r := r) (ro := ro) (rs := rs) hv t, 0, a, h => by
    have : b = a := by simpa using h
    subst this
    exact ⟨[], vs, n, ro, r, rfl, rfl, rfl, hv, fun vs' r' n' h' => .cons h' t⟩
  | _, _, .cons (a := b) (vs := vs) (n := n) (r := r) (ro := ro) (rs := rs) hv t, j + 1, a, h => by
    obtain ⟨pre, vs1, n1, post, r1, rfl, hl, hr, hv1, hs⟩ := t.split j a (by simpa using h)
    exact ⟨(b, listOf vs.toArray n) :: pre, vs1, n1, post, r1, rfl, by simp [hl], by simpa using hr, hv1, fun vs' r' n' h' => .cons hv (hs vs' r' n' h')⟩
theorem RowsO.at : ∀ {ro : List (Addr × Obj)} {rs : List (List Str)}, RowsO ro rs → ∀ (j : Nat) (p : Addr × Obj), ro[j]? = some p → ∃ vs n r, p.2 = listOf (List.toArray vs) n ∧ rs[j]? = some r ∧ StrsAre vs r
  | _, _, .nil, j, p, h => by simp at h
  | _, _, .cons hv t, 0, p, h => by
    simp at h; subst h; exact ⟨_, _, _, rfl, rfl, hv⟩
  | _, _, .cons hv t, j + 1, p, h => by
    obtain ⟨vs, n, r, e, hr, hv⟩ := t.at j p (by simpa using h)
    exact ⟨vs, n, r, e, by simpa using hr, hv⟩
theorem off1_mem {D : Addr} : ∀ {l : List (Addr × Obj)}, LCg.Off1 D l → ∀ p ∈ l, p.1 ≠ D
  | [], _, _, h => nomatch h
  | _ :: _, x, p, h => by
    rcases List.mem_cons.mp h with rfl | h
    · exact x.1
    · exact off1_mem x.2 p h
def okS (u : Str) : Prop := PyData.strOk u = true
theorem okS_default : okS default := by unfold okS; decide +kernel
theorem bumpGo_ok : ∀ (rs : List (List Str)) (s : Str), (∀ r ∈ rs, ∀ u ∈ r, okS u) → okS s → ∀ r ∈ bumpGo rs s, ∀ u ∈ r, okS u
  | [], _, _, _ => fun _ h => (nomatch h)
  | r :: rs, s, h, hs => by
    simp only [bumpGo]
    have h0 := h r (.head _)
    split
    · intro x hx
      rcases List.mem_cons.mp hx with rfl | hx
      · intro u hu
        rcases List.mem_append.mp hu with z | z
        · exact h0 u z
        · rw [List.mem_singleton.mp z]; exact hs
      · exact h x (.tail _ hx)
    · intro x hx
      rcases List.mem_cons.mp hx with rfl | hx
      · intro u hu
        rcases List.mem_or_eq_of_mem_set hu with z | z
        · exact h0 u z
        · rw [z]; exact hs
      · refine bumpGo_ok rs _ (fun r hr => h r (.tail _ hr)) ?_ x hx
        rw [List.getD_eq_getElem?_getD]
        cases e : r[bisR r s]? with
        | none => exact okS_default
        | some u => exact h0 u (List.mem_of_getElem? e)
theorem rows_ok : ∀ (l : List Str) (acc : List (List Str)), (∀ u ∈ l, okS u) → (∀ r ∈ acc, ∀ u ∈ r, okS u) → ∀ r ∈ l.foldl bump acc, ∀ u ∈ r, okS u
  | [], acc, _, h => h
  | y :: l, acc, hl, h => rows_ok l (bump acc y) (fun u hu => hl u (.tail _ hu)) (bumpGo_ok _ _ (fun r hr => by
      rcases List.mem_append.mp hr with z | z
      · exact h r z
      · rw [List.mem_singleton.mp z]; exact fun _ h => nomatch h) (hl y (.head _)))
theorem rowsS_succ (l : List Str) (i : Nat) (hi : i < l.length) : rowsS (l.take (i + 1)) = bump (rowsS (l.take i)) (l.getD i default) := by
  unfold rowsS
  rw [List.take_succ, List.foldl_append]
  simp [hi]
theorem step_in {rs : List (List Str)} {r : List Str} {sg : Str} {j : Nat} (hr : rs[j]? = some r) (hb : bisR r sg ≠ r.length) {fin : List (List Str)} (hf : rs.take j ++ bumpGo (rs.drop j) sg = fin) :
    (rs.set j (r.set (bisR r sg) sg)).take (j + 1) ++ bumpGo ((rs.set j (r.set (bisR r sg) sg)).drop (j + 1)) (r.getD (bisR r sg) default) = fin := by
  obtain ⟨hj, rfl⟩ := List.getElem?_eq_some_iff.mp hr
  rw [List.drop_eq_getElem_cons hj] at hf
  simp only [bumpGo, if_neg hb] at hf
  rw [← hf, List.drop_set_of_lt (by omega), List.take_succ, List.take_set]
  simp [hj]
  rw [List.set_eq_of_length_le]
  simp
  omega
theorem step_out {rs : List (List Str)} {r : List Str} {sg : Str} {j : Nat} (hr : rs[j]? = some r) (hb : bisR r sg = r.length) {fin : List (List Str)} (hf : rs.take j ++ bumpGo (rs.drop j) sg = fin) :
    rs.set j (r ++ [sg]) = fin := by
  obtain ⟨hj, rfl⟩ := List.getElem?_eq_some_iff.mp hr
  rw [List.drop_eq_getElem_cons hj] at hf
  simp only [bumpGo, if_pos hb] at hf
  rw [← hf, List.set_eq_take_append_cons_drop, if_pos hj]
theorem bisGo_le' (xs : List Str) (x : Str) : ∀ f lo hi, lo ≤ hi → hi ≤ xs.length → bisGo xs x f lo hi ≤ xs.length
  | 0, lo, hi, h, h' => Nat.le_trans h h'
  | f + 1, lo, hi, h, h' => by
    simp only [bisGo]
    split
    · split
      · exact bisGo_le' xs x f _ _ (by omega) (by omega)
      · exact bisGo_le' xs x f _ _ (by omega) (by omega)
    · omega
theorem StrsAre.set' {vs : List Value} {xs : List Str} (h : StrsAre vs xs) (y : Str) (t : Tok) : ∀ k, StrsAre (vs.set k (.str y t)) (xs.set k y) := by
  induction h with
  | nil => intro k; simp; exact .nil
  | cons x t' r ih => intro k; cases k with
    | zero => exact .cons y t r
    | succ k => exact .cons x t' (ih k)
theorem setV {prog : Program} {w : World} {A : Around} {E : Value → Shared → Prop} {s : Shared} {h₀ : Heap} {L D : Addr} {m : Str → Option Value} {news news' : List (Addr × Obj)} {vs : List Value} {n k : Nat} {t : Tok} {v : Value} {Q : Unit → Shared → Prop} (F : Fr h₀ L s.heap m) (Nw : News h₀ L s.heap news) (U : Upd D (listOf vs.toArray n) (listOf (vs.set k v).toArray n) news news') (hk : k < vs.length) (h8 : k < 1000)
    (h : ∀ h', Fr h₀ L h' m → News h₀ L h' news' → Q () { s with heap := h' }) : wpAny (model prog w) A (setItem (.ref D) (.int (k : Nat) t) v) Q E s := by
  obtain ⟨pre, post, rfl, rfl, a, b⟩ := U.split
  have z := Nw (D, listOf vs.toArray n) (List.mem_append.mpr (.inr (.head _)))
  refine ki_setAt z.1 (by omega) (by omega) (by simp; omega) (h _ (F.change (Heap.SameBut.update ..) z.2.1 z.2.2) (ki_turn _ Nw a b ?_ ?_))
  · simp
  · rw [if_pos (by simp)]
structure IJ (wa ra : Addr) (adrs : List Addr) (fin : List (List Str)) (n1 : Nat) (rr : List (Addr × Obj)) (j : Nat) (m : Str → Option Value) (nx : List (Addr × Obj)) : Prop where
  out : ∃ ro rs sg t, nx = (ra, listOf (List.toArray (adrs.map Value.ref)) n1) :: (ro ++ rr) ∧ ro.map (·.1) = adrs ∧ m (Str.ofString "word") = some (.ref wa) ∧ m (Str.ofString "rows") = some (.ref ra) ∧ m (Str.ofString "sign") = some (.str sg t) ∧
    RowsO ro rs ∧ rs.take j ++ bumpGo (rs.drop j) sg = fin ∧ (∀ r ∈ rs, r.length ≤ 8)
structure OJ (wa ra : Addr) (word : List Str) (rest : List (Addr × Obj)) (i : Nat) (m : Str → Option Value) (nx : List (Addr × Obj)) : Prop where
  out : ∃ ro n, nx = (ra, listOf (List.toArray (ro.map fun p => Value.ref p.1)) n) :: (ro ++ rest) ∧ m (Str.ofString "word") = some (.ref wa) ∧ m (Str.ofString "rows") = some (.ref ra) ∧
    RowsO ro (rowsS (word.take i)) ∧ (ro.map (·.1)).Nodup ∧ (∀ p ∈ ro, ra < p.1) ∧ (∀ q ∈ rest, q.1 < ra) ∧ ro.length ≤ i
end Mine
set_option maxRecDepth 100000 in
set_option maxHeartbeats 8000000 in
theorem rows_c {w : World} {mean : ExcName → Option Value} {mg mb : Str → Option Value} {loose : List Str}
   {dp un : Nat} {gd : Option (List Code)} {cn : Str} {cs : Scope} {a : Addr} {ccd : Value} {cl : List (Str × Addr)} {outer : List Env} {A₀ : Around} {base h₀ : Heap} {L : Addr} {m : Str → Option Value} {rest : List (Addr × Obj)} {s : Shared} {Q E : Value → Shared → Prop}
   (B : Below A₀ base outer h₀) (F : Fr h₀ L s.heap m) (X : (hd.heap_39 w.params).In h₀) (N : News h₀ L s.heap rest) (T : Top topProg loose mean mg mb h₀) (hk : cs.kind = .function)
   (wa : Addr) (wvs : List Value) (word : List Str) (wn : Nat) (hst : StrsAre wvs word) (hmem : (wa, listOf wvs.toArray wn) ∈ rest) (hlen : word.length ≤ 8) (hok : ∀ u ∈ word, PyData.strOk u = true) (hdp : dp + 6 < recursionLimit) (hun : un + 200 < cLine)
   (hret : ∀ h' gn tk' D (ys : List Value) k, (AllBare s.gens → AllBare gn) → Fr h₀ L h' m → News h₀ L h' ((D, listOf ys.toArray k) :: rest) → ys.length = ((rowsS word).filter (· ≠ [])).length → (∀ q ∈ rest, q.1 ≠ D) → Q (.ref D) { s with heap := h', gens := gn, toks := tk' }) :
   wpAny (model PySem.Challenge.rw_pg0087_01.row.prog w) (ktrTop dp un gd cn cs L a ccd cl outer) (call (.ref 70) [.ref wa]) Q E s := by
  revert X
  k_fill
  intro X
  refine wpAny_call ?_
  k_dflt (first | (refine' code_def ?k1 ?k2 ?k3 ?k4 ?k5 ?kA ?kF ?kK ?k6 ?k7 ?k8 ?k9 ?kB ?_ ?c2 ?c3 ?c4 ?c5; (case kA => exact rfl); (case kF => exact rfl); (case kK => assumption); (case k1 => k_asm); (case k2 => k_asm); (case k3 => k_asm); (case k4 => k_asm); (case k5 => k_asm); (case k6 => k_is); (case k7 => k_is); (case k8 => ktr_room); (case k9 => first | exact BindsTo.of_eq rfl | exact binds_K (by k_in) rfl (by k_is) rfl rfl rfl | (refine' kp_binds ?kx ?ke; (case kx => k_in); (case ke => exact fun _ => rfl))); (case c5 => decide); (case kB => exact locs rfl); (case c2 => exact rfl); (case c3 => exact rfl); (case c4 => exact rfl); k_whole) | (refine' code_defC ?k1 ?k2 ?k3 ?k4 ?k5 ?kA ?kF ?kK ?k6 ?k7 ?k8 ?k9 ?kB ?kD ?_ ?c2 ?c3 ?c4; (case kA => exact rfl); (case kF => exact rfl); (case kK => assumption); (case k1 => k_asm); (case k2 => k_asm); (case k3 => k_asm); (case k4 => k_asm); (case k5 => k_asm); (case k6 => k_is); (case k7 => k_is); (case k8 => ktr_room); (case k9 => first | exact BindsTo.of_eq rfl | exact binds_K (by k_in) rfl (by k_is) rfl rfl rfl | (refine' kp_binds ?kx ?ke; (case kx => k_in); (case ke => exact fun _ => rfl))); (case kB => exact rfl); (case kD => decide +kernel); (case c2 => exact rfl); (case c3 => exact rfl); (case c4 => exact rfl); k_whole))
  intro g1 L1 h1 FG1 F1 N1 B1 X1 T1
  (try dsimp only); (try k_lift B1); (try k_fold)
  k_steps
  refine Halt.go (newList_K F1 N1 fun ra h2 F2 N2 hlt => ?_)
  k_steps
  refine Halt.go (forSrc ?_)
  k_steps
  refine forList (base := g1) (x := _) (its := wvs) (news := _) rfl rfl rfl (by assumption) (by assumption) (OJ wa ra word rest) ?_ ?_ ?_ ?_
  · exact ⟨[], 0, rfl, rfl, rfl, .nil, .nil, (fun _ h => by cases h), hlt, Nat.le_refl _⟩
  · rintro i m' nx ⟨_, _, rfl, _⟩
    exact ⟨wn, .tail _ (List.mem_append.mpr (.inr hmem))⟩
  · intro i v m₁ news₁ h gn tk own E' hv hJ hoff F4 N4
    obtain ⟨ro, n, rfl, e1, e2, hro, hnd, hra, hrk, hln⟩ := hJ
    have hi : i < word.length := by
      have := (List.getElem?_eq_some_iff.mp hv).1
      rw [hst.length] at this; exact this
    obtain ⟨tv, hv'⟩ := strs_at hst i hi
    rw [hv] at hv'
    cases hv'
    obtain ⟨rest0, hrest0⟩ : ∃ r0, r0 = ro ++ rest ++ own := ⟨_, rfl⟩
    rw [List.cons_append, ← hrest0] at N4
    have hoff0 : OwnOff rest0 [ra] := by
      intro q hq b hb
      rw [List.mem_singleton.mp hb]
      rw [hrest0] at hq
      rcases List.mem_append.mp hq with hq | hq
      · rcases List.mem_append.mp hq with hq | hq
        · exact Nat.ne_of_gt (hra q hq)
        · exact Nat.ne_of_lt (hrk q hq)
      · exact hoff q hq _ (.head _)
    have F5 := Fr.put F4 [(Str.ofString "sign", _), (Str.ofString "word", _), (Str.ofString "rows", _)] ⟨rfl, e1, e2, trivial⟩
    simp only [putM] at F5
    change Fr g1 L1 h _ at F5
    change News g1 L1 h _ at N4
    clear F4
    k_steps
    refine Halt.go (newList_K F5 N4 fun na h6 F6 N6 hlt6 => ?_)
    have hna : ra < na := hlt6 _ (.head _)
    k_steps
    refine append_K F6 N6 (.tail (Nat.ne_of_gt hna) (.head fun q hq => hoff0 q hq ra (.head _))) (fun h7 F7 N7 => ?_) (by simp [sizeLine]; omega)
    rw [List.push_toArray] at N7
    have hrefs : (ro.map fun p => Value.ref p.1) ++ [Value.ref na] = (ro ++ [(na, listOf #[] 0)]).map fun p => Value.ref p.1 := by simp
    rw [hrefs] at N7
    obtain ⟨ro1, hro1⟩ : ∃ r1, r1 = ro ++ [(na, listOf #[] 0)] := ⟨_, rfl⟩
    have N8 : News g1 L1 h7 ((ra, listOf (List.toArray (ro1.map fun p => Value.ref p.1)) (n + 1)) :: (ro1 ++ (rest ++ own))) := fun q hq => N7 q (by
      rw [← hro1]
      rcases List.mem_cons.mp hq with rfl | hq
      · exact .tail _ (.head _)
      · rcases List.mem_append.mp hq with hq | hq
        · rw [hro1] at hq
          rcases List.mem_append.mp hq with hq | hq
          · exact .tail _ (.tail _ (by rw [hrest0, List.append_assoc]; exact List.mem_append.mpr (.inl hq)))
          · rw [List.mem_singleton.mp hq]; exact .head _
        · exact .tail _ (.tail _ (by rw [hrest0, List.append_assoc]; exact List.mem_append.mpr (.inr hq))))
    clear N7 N6 N4 F5 F6
    k_steps
    refine Halt.go (forSrc ?_)
    k_steps
    have hadr1 : ∃ adrs, adrs = ro1.map (·.1) := ⟨_, rfl⟩
    obtain ⟨adrs, hadrs⟩ := hadr1
    have hro1' : RowsO ro1 (rowsS (word.take i) ++ [[]]) := by rw [hro1]; exact hro.snoc .nil
    have hits : (ro1.map fun p => Value.ref p.1) = adrs.map Value.ref := by rw [hadrs]; simp [List.map_map, Function.comp_def]
    rw [hits] at N8
    have hnd1 : adrs.Nodup := by
      rw [hadrs, hro1, List.map_append, List.nodup_append]
      refine ⟨hnd, by simp, ?_⟩
      intro a ha b hb
      obtain ⟨q, hq, rfl⟩ := List.mem_map.mp ha
      simp at hb
      subst hb
      exact Nat.ne_of_lt (hlt6 q (.tail _ (by rw [hrest0, List.append_assoc]; exact List.mem_append.mpr (.inl hq))))
    have hr8 : ∀ r ∈ rowsS (word.take i) ++ [[]], r.length ≤ 8 := by
      intro r hr
      rcases List.mem_append.mp hr with z | z
      · have := (rowsS_len (word.take i) [] 0 (fun _ h => nomatch h)).1 r z
        simp at this; omega
      · rw [List.mem_singleton.mp z]; exact Nat.zero_le _
    have hraA : ∀ b ∈ adrs, ra < b := by
      intro b hb
      rw [hadrs, hro1, List.map_append] at hb
      rcases List.mem_append.mp hb with z | z
      · obtain ⟨q, hq, rfl⟩ := List.mem_map.mp z
        exact hra q hq
      · simp at z; rw [z]; exact hna
    have hoffI : OwnOff own (ra :: (adrs ++ rest.map (·.1))) := by
      intro q hq b hb
      rcases List.mem_cons.mp hb with rfl | hb
      · exact hoff q hq _ (.head _)
      · rcases List.mem_append.mp hb with hb | hb
        · rw [hadrs, hro1, List.map_append] at hb
          rcases List.mem_append.mp hb with z | z
          · exact hoff q hq _ (.tail _ (by rw [List.map_append]; exact List.mem_append.mpr (.inl z)))
          · simp at z; rw [z]
            exact Nat.ne_of_lt (hlt6 q (.tail _ (by rw [hrest0]; exact List.mem_append.mpr (.inr hq))))
        · exact hoff q hq _ (.tail _ (by rw [List.map_append]; exact List.mem_append.mpr (.inr hb)))
    have hlenA : adrs.length ≤ i + 1 := by rw [hadrs, hro1]; simp; omega
    have finO : ∀ {h' : Heap} {gn' : Array GenState} {tk0 tk' : Nat} {m' : Str → Option Value} {ro3 : List (Addr × Obj)} {nw : List (Addr × Obj)}, Fr g1 L1 h' m' → News g1 L1 h' nw → (ra, listOf (List.toArray (adrs.map Value.ref)) (n + 1)) ∈ nw → (∀ p ∈ ro3, p ∈ nw) → (∀ p ∈ rest, p ∈ nw) → (∀ p ∈ own, p ∈ nw) → ro3.map (·.1) = adrs →
        m' (Str.ofString "word") = some (.ref wa) → m' (Str.ofString "rows") = some (.ref ra) → RowsO ro3 (bump (rowsS (word.take i)) (word.getD i default)) → (AllBare gn → AllBare gn') →
        LEnd g1 L1 (OJ wa ra word rest (i + 1)) own { s with heap := h, gens := gn, toks := tk0 } { s with heap := h', gens := gn', toks := tk' } := by
      intro h' gn' tk0 tk' m' ro3 nw F' N' b1 b2 b3 b4 b5 b6 b7 b8 b9
      have e0 : (ro3.map fun p => Value.ref p.1) = adrs.map Value.ref := by rw [← b5]; simp [List.map_map, Function.comp_def]
      refine ⟨h', gn', tk', m', nw, (ra, listOf (List.toArray (adrs.map Value.ref)) (n + 1)) :: (ro3 ++ rest), rfl, b9, F', N', ?_, b4, ?_, ro3, n + 1, ?_, b6, b7, ?_, ?_, ?_, hrk, ?_⟩
      · intro p hp
        rcases List.mem_cons.mp hp with rfl | hp
        · exact b1
        · exact (List.mem_append.mp hp).elim (b2 p) (b3 p)
      · rw [List.map_cons, List.map_append, b5]; exact hoffI
      · rw [e0]
      · rw [rowsS_succ _ _ hi]; exact b8
      · rw [b5]; exact hnd1
      · intro p hp; exact hraA _ (by rw [← b5]; exact List.mem_map_of_mem hp)
      · rw [← List.length_map (f := fun p : Addr × Obj => p.1), b5]; exact hlenA
    refine forList (base := g1) (x := _) (its := adrs.map Value.ref) (news := _) rfl rfl rfl F7 N8 (IJ wa ra adrs (bump (rowsS (word.take i)) (word.getD i default)) (n + 1) (rest ++ own)) ?_ ?_ ?_ ?_
    · exact ⟨ro1, _, _, _, rfl, hadrs.symm, rfl, rfl, rfl, hro1', rfl, hr8⟩
    · rintro j m' nx ⟨_, _, _, _, rfl, _⟩
      exact ⟨_, .head _⟩
    · intro j v m₂ news₂ h8 gn8 tk8 own8 E8 hv8 hJ8 hoff8 F8 N9
      obtain ⟨ro2, rs, sg, tg, rfl, had2, a1, a2, a3, hro2, hfin, hle⟩ := hJ8
      rw [List.getElem?_map] at hv8
      obtain ⟨ad, had, rfl⟩ : ∃ ad, adrs[j]? = some ad ∧ v = .ref ad := by
        cases e : adrs[j]? with
        | none => rw [e] at hv8; cases hv8
        | some ad => rw [e] at hv8; cases hv8; exact ⟨ad, rfl, rfl⟩
      obtain ⟨pre, rvs, rn, post, r, rfl, hpre, hr, hrv, hset⟩ := hro2.split j ad (by rw [had2]; exact had)
      have hrvK : Unit → StrsAre rvs r := fun _ => hrv
      have hr8' : r.length ≤ 8 := hle r (List.mem_of_getElem? hr)
      obtain ⟨rest1, hrest1⟩ : ∃ r1, r1 = (ra, listOf (List.toArray (adrs.map Value.ref)) (n + 1)) :: (pre ++ post ++ (rest ++ own) ++ own8) := ⟨_, rfl⟩
      have N10 : News g1 L1 h8 ((ad, listOf (List.toArray rvs) rn) :: rest1) := fun q hq => N9 q (by
        rw [hrest1] at hq
        simp only [List.mem_cons, List.mem_append] at hq ⊢
        rcases hq with z | z | ((z | z) | z | z) | z <;> simp [z])
      have hadm : ad ∈ adrs := List.mem_of_getElem? had
      have hoff1 : OwnOff rest1 [ad] := by
        intro q hq b hb
        rw [List.mem_singleton.mp hb]
        rw [hrest1] at hq
        rw [← had2, List.map_append, List.map_cons] at hnd1
        have hd := List.nodup_append.mp hnd1
        rcases List.mem_cons.mp hq with rfl | hq
        · exact Nat.ne_of_lt (hraA _ hadm)
        · rcases List.mem_append.mp hq with hq | hq
          · rcases List.mem_append.mp hq with hq | hq
            · rcases List.mem_append.mp hq with hq | hq
              · exact hd.2.2 _ (List.mem_map_of_mem hq) _ (.head _)
              · intro e
                have hz := List.mem_map_of_mem (f := fun x : Addr × Obj => x.1) hq
                replace hz : q.1 ∈ post.map (·.1) := hz
                rw [e] at hz
                exact (List.nodup_cons.mp hd.2.1).1 hz
            · rcases List.mem_append.mp hq with hq | hq
              · exact Nat.ne_of_lt (Nat.lt_trans (hrk q hq) (hraA _ hadm))
              · exact hoffI q hq _ (.tail _ (List.mem_append.mpr (.inl hadm)))
          · refine hoff8 q hq _ (.tail _ ?_)
            rw [List.map_append, had2]; exact List.mem_append.mpr (.inl hadm)
      have hmR : ∀ (o : Obj) (p : Addr × Obj), (p = (ra, listOf (List.toArray (adrs.map Value.ref)) (n + 1)) ∨ p ∈ pre ∨ p ∈ post ∨ p = (ad, o) ∨ p ∈ rest ∨ p ∈ own ∨ p ∈ own8) → p ∈ (ad, o) :: rest1 := by
        intro o p hp
        rw [hrest1]
        simp only [List.mem_cons, List.mem_append]
        rcases hp with z | z | z | z | z | z | z <;> simp [z]
      have F9 := Fr.put F8 [(Str.ofString "row", _), (Str.ofString "sign", _), (Str.ofString "word", _), (Str.ofString "rows", _)] ⟨rfl, a3, a1, a2, trivial⟩
      simp only [putM] at F9
      change Fr g1 L1 h8 _ at F9
      clear F8 N9 F7 N8
      k_steps
      refine Halt.go (bis0 rvs r hrv ad sg tg B1 F9 X1 N10 T1 rfl rn (.head _) (by omega) (by ktr_room) (by ktr_room) fun t9 h9 tk9 F10 N11 => ?_)
      clear F9 N10
      have hble : bisR r sg ≤ r.length := bisGo_le' _ _ _ _ _ (Nat.zero_le _) (Nat.le_refl _)
      k_steps
      · rename News _ _ _ _ => N12
        rename Fr _ _ _ _ => F12
        rename _ = _ => hbe
        rw [List.push_toArray] at N12
        intro hb
        try dsimp only
        k_steps
        refine finO (ro3 := pre ++ (ad, listOf (List.toArray (rvs ++ [Value.str sg tg])) (rn + 1)) :: post) F12 N12 (hmR _ _ (.inl rfl)) (fun p hp => hmR _ _ ?_) (fun p hp => hmR _ _ (by simp [hp])) (fun p hp => hmR _ _ (by simp [hp])) (by simpa using had2) rfl rfl ?_ hb
        · simp only [List.mem_append, List.mem_cons] at hp
          rcases hp with z | z | z <;> simp [z]
        · have := hset _ _ (rn + 1) (strs_snoc (hrvK ()) sg tg)
          rw [step_out hr (by exact_mod_cast hbe) hfin] at this
          exact this
      · rename News _ _ _ _ => N12
        rename _ ≠ _ => hbe
        have hbl : bisR r sg < r.length := by omega
        rename Fr _ _ _ _ => F12
        rename _ ∧ AllLt _ _ => hD
        have hlv : rvs.length = r.length := (hrvK ()).length
        refine setV F12 N12 (.tail (Nat.ne_of_gt hD.1) (.head fun q hq => hoff1 q hq ad (.head _))) (by omega) (by omega) fun h13 F13 N13 => ?_
        clear F12 N12
        k_steps
        have hge : r.getD (bisR r sg) Str.empty = r.getD (bisR r sg) default := rfl
        refine ⟨_, _, _, _, _, (ra, listOf (List.toArray (adrs.map Value.ref)) (n + 1)) :: ((pre ++ (ad, listOf (List.toArray (rvs.set (bisR r sg) (Value.str sg tg))) rn) :: post) ++ (rest ++ own)), rfl, id, F13, N13, ?_, ?_, ?_, _, _, _, _, rfl, ?_, rfl, rfl, rfl, hset _ _ rn (StrsAre.set' (hrvK ()) sg tg _), step_in hr (fun e => hbe (by rw [e])) hfin, ?_⟩
        · intro p hp
          refine .tail _ (hmR _ _ ?_)
          simp only [List.mem_append, List.mem_cons] at hp
          rcases hp with z | ((z | z | z) | z | z) <;> simp [z]
        · intro p hp
          exact .tail _ (hmR _ _ (by simp [hp]))
        · rw [List.map_cons, List.map_append] at hoff8 ⊢
          rw [had2] at hoff8
          simpa [← had2] using hoff8
        · simpa using had2
        · intro r' hr'
          rcases List.mem_or_eq_of_mem_set hr' with z | z
          · exact hle _ z
          · rw [z, List.length_set]; exact hr8'
    · intro m₂ news₂ h8 gn8 tk8 hJ8 F8 N9 hb
      obtain ⟨ro2, rs, sg, tg, rfl, had2, a1, a2, a3, hro2, hfin, hle⟩ := hJ8
      change Fr g1 L1 h8 _ at F8
      change News g1 L1 h8 _ at N9
      try dsimp only
      k_steps
      have hlr : rs.length = adrs.length := by rw [← hro2.len, ← had2, List.length_map]
      rw [List.length_map, ← hlr, List.take_length, List.drop_length] at hfin
      have hfin' : rs = bump (rowsS (word.take i)) (word.getD i default) := by rw [← hfin]; simp [bumpGo]
      refine finO (ro3 := ro2) F8 N9 (.head _) (fun p hp => .tail _ (List.mem_append.mpr (.inl hp))) (fun p hp => .tail _ (List.mem_append.mpr (.inr (List.mem_append.mpr (.inl hp))))) (fun p hp => .tail _ (List.mem_append.mpr (.inr (List.mem_append.mpr (.inr hp))))) had2 a1 a2 (hfin' ▸ hro2) hb
  · intro m₁ news₁ h gn tk hJ F4 N4 hbr
    obtain ⟨ro, n, rfl, e1, e2, hro, hnd, hra, hrk, hln⟩ := hJ
    rw [hst.length, List.take_length] at hro
    have F5 := Fr.put F4 [(Str.ofString "word", _), (Str.ofString "rows", _)] ⟨e1, e2, trivial⟩
    simp only [putM] at F5
    change Fr g1 L1 h _ at F5
    change News g1 L1 h _ at N4
    clear F4
    try dsimp only
    k_steps
    have hln8 : ro.length ≤ 8 := by rw [hst.length] at hln; omega
    refine Halt.go (LCt.CompSrcT.ledger rfl F5 N4 (.head _) (by simp [sizeLine]; omega) fun g => restT (fun i ys => ys.length = (((rowsS word).take i).filter (· ≠ [])).length) (.inr ⟨_, .head _, rfl, _, rfl⟩) ?_ ?_ _ 0 [] (Nat.zero_add _) rfl (Nat.le_refl _))
    · intro i ys v I oI C oC D m₂ h' tk' E' hi hJ hyl hv hC hx F' N' off ne
      simp only [List.getElem?_toArray, List.getElem?_map] at hv
      obtain ⟨p, hp, rfl⟩ : ∃ p, ro[i]? = some p ∧ v = .ref p.1 := by
        cases e : ro[i]? with
        | none => rw [e] at hv; cases hv
        | some p => rw [e] at hv; cases hv; exact ⟨p, rfl, rfl⟩
      obtain ⟨rvs, rn, r, hp2, hr, hrv⟩ := hro.at i p hp
      have hrvK : Unit → StrsAre rvs r := fun _ => hrv
      obtain ⟨pa, po⟩ := p
      simp only at hp2
      subst hp2
      have hm : ((pa, listOf (List.toArray rvs) rn) : Addr × Obj) ∈ ro := List.mem_of_getElem? hp
      k_steps
      refine Halt.go (newList_K F' N' fun ea h6 F6 N6 hlt6 => ?_)
      k_steps
      have hrin : r ∈ rowsS word := List.mem_of_getElem? hr
      have hst3 : ((rowsS word).take (i + 1)).filter (· ≠ []) = ((rowsS word).take i).filter (· ≠ []) ++ (if r ≠ [] then [r] else []) := by
        rw [List.take_add_one, hr, List.filter_append]
        by_cases h0 : r = []
        · simp [h0]
        · simp [h0]
      refine neStrs N6 (.tail _ (.tail _ (.tail _ (.tail _ (.tail _ (List.mem_append.mpr (.inl hm))))))) (hrvK ()) (.head _) .nil (fun u hu => rows_ok word [] hok (fun _ h => nomatch h) r hrin u hu) (fun _ h => nomatch h) (by ktr_units) ?_
      k_steps
      · rename decide (r = []) = true => a1
        refine ⟨_, _, _, rfl, F6, N6, fun p hp => .tail _ hp, ?_⟩
        rw [hst3, if_neg (by simpa using a1), List.append_nil]; exact hJ
      · rename decide (r = []) = false => a1
        refine ⟨_, _, _, rfl, F6, N6, fun p hp => .tail _ hp, ?_⟩
        rw [hst3, if_pos (by simpa using a1), List.length_append, List.length_append, hJ]; rfl
    · intro ys hJ hyl D h' tk' F' N' off
      try dsimp only
      k_steps
      rw [show (List.map (fun p : Addr × Obj => Value.ref p.fst) ro).toArray.size = (rowsS word).length by simp [hro.len], List.take_length] at hJ
      rename News h₀ L _ _ => N9
      refine hret _ gn _ D ys ys.length hbr (by assumption) (fun q hq => N9 q ?_) hJ (fun q hq => off1_mem off q (.tail _ (List.mem_append.mpr (.inr hq))))
      rcases List.mem_cons.mp hq with rfl | hq
      · exact .head _
      · exact .tail _ (.tail _ (List.mem_append.mpr (.inr hq)))
end
end
section
theorem fresh_N8 : True := by
  w_top off
  trivial
open PySem.W.X (SegX)
open PySem PySem.W PyProof.Rows PySem.Calls PySem.Spec

open Mine

section
local macro_rules | `(tactic| walk_at "exec Assign cons ListComp") => `(tactic| refine Mine.Halt.mk ?_)
local macro_rules | `(tactic| walk_at "exec For Name Call cons nil") => `(tactic| refine Mine.Halt.mk ?_)
local macro_rules | `(tactic| walk_at "call builtin:max") => `(tactic| refine Mine.Halt.mk ?_)
local macro_rules | `(tactic| walk_at "call builtin:min") => `(tactic| refine Mine.Halt.mk ?_)
local macro_rules | `(tactic| walk_at "call builtin:max cons nil") => `(tactic| refine Mine.Halt.mk ?_)
local macro_rules | `(tactic| walk_at "call builtin:min cons nil") => `(tactic| refine Mine.Halt.mk ?_)
local macro_rules | `(tactic| walk_at "CompSrc") => `(tactic| refine Mine.Halt.mk ?_)
local macro_rules | `(tactic| walk_at "subscriptTail Name Slice ref ref") => `(tactic| refine Mine.Halt.mk ?_)
namespace Mine
def ltS (x y : Str) : Bool := decide (x.cps.toList < y.cps.toList)
def turnedS (word : List Str) (sides : List Int) (k : Nat) : Int := if maxS (word.take (k + 1)) = word.getD k default then sides.getD k 0 else 1 - sides.getD k 0
def fitAt (word : List Str) (sides : List Int) (k : Nat) : Prop := ltS (minS (word.drop k)) (maxS (word.take k)) = true → turnedS word sides k = turnedS word sides (k - 1)
def fitsS (word : List Str) (sides : List Int) : Prop := ∀ k, 1 ≤ k → k < word.length → fitAt word sides k
end Mine
set_option maxRecDepth 100000 in
set_option maxHeartbeats 8000000 in
theorem fits_c {w : World} {mean : ExcName → Option Value} {mg mb : Str → Option Value} {loose : List Str}
   {dp un : Nat} {gd : Option (List Code)} {cn : Str} {cs : Scope} {a : Addr} {ccd : Value} {cl : List (Str × Addr)} {outer : List Env} {A₀ : Around} {base h₀ : Heap} {L : Addr} {m : Str → Option Value} {rest : List (Addr × Obj)} {s : Shared} {Q E : Value → Shared → Prop}
   (B : Below A₀ base outer h₀) (F : Fr h₀ L s.heap m) (X : (hd.heap_39 w.params).In h₀) (N : News h₀ L s.heap rest) (T : Top topProg loose mean mg mb h₀) (hk : cs.kind = .function)
   (wa : Addr) (wvs : List Value) (word : List Str) (wn : Nat) (hst : StrsAre wvs word) (hmem : (wa, listOf wvs.toArray wn) ∈ rest) (sa : Addr) (svs : List Value) (sides : List Int) (sn : Nat) (hsi : IntsAre svs sides) (hmem2 : (sa, listOf svs.toArray sn) ∈ rest) (hlen : word.length ≤ 8) (hsl : sides.length = word.length) (hsb : ∀ d ∈ sides, d = 0 ∨ d = 1) (hdp : dp + 6 < recursionLimit) (hun : un + 200 < cLine)
   (hret : ∀ h' gn tk' b, (b = true ↔ fitsS word sides) → (AllBare s.gens → AllBare gn) → Fr h₀ L h' m → News h₀ L h' rest → Q (.bool b) { s with heap := h', gens := gn, toks := tk' }) :
   wpAny (model PySem.Challenge.rw_pg0087_01.row.prog w) (ktrTop dp un gd cn cs L a ccd cl outer) (call (.ref 75) [.ref wa, .ref sa]) Q E s := by
  revert X
  k_fill
  intro X
  refine wpAny_call ?_
  k_dflt (first | (refine' code_def ?k1 ?k2 ?k3 ?k4 ?k5 ?kA ?kF ?kK ?k6 ?k7 ?k8 ?k9 ?kB ?_ ?c2 ?c3 ?c4 ?c5; (case kA => exact rfl); (case kF => exact rfl); (case kK => assumption); (case k1 => k_asm); (case k2 => k_asm); (case k3 => k_asm); (case k4 => k_asm); (case k5 => k_asm); (case k6 => k_is); (case k7 => k_is); (case k8 => ktr_room); (case k9 => first | exact BindsTo.of_eq rfl | exact binds_K (by k_in) rfl (by k_is) rfl rfl rfl | (refine' kp_binds ?kx ?ke; (case kx => k_in); (case ke => exact fun _ => rfl))); (case c5 => decide); (case kB => exact locs rfl); (case c2 => exact rfl); (case c3 => exact rfl); (case c4 => exact rfl); k_whole) | (refine' code_defC ?k1 ?k2 ?k3 ?k4 ?k5 ?kA ?kF ?kK ?k6 ?k7 ?k8 ?k9 ?kB ?kD ?_ ?c2 ?c3 ?c4; (case kA => exact rfl); (case kF => exact rfl); (case kK => assumption); (case k1 => k_asm); (case k2 => k_asm); (case k3 => k_asm); (case k4 => k_asm); (case k5 => k_asm); (case k6 => k_is); (case k7 => k_is); (case k8 => ktr_room); (case k9 => first | exact BindsTo.of_eq rfl | exact binds_K (by k_in) rfl (by k_is) rfl rfl rfl | (refine' kp_binds ?kx ?ke; (case kx => k_in); (case ke => exact fun _ => rfl))); (case kB => exact rfl); (case kD => decide +kernel); (case c2 => exact rfl); (case c3 => exact rfl); (case c4 => exact rfl); k_whole))
  intro g1 L1 h1 tk1 cells1 FG1 F1 N1 Y1 B1 X1 T1 hlt1
  obtain ⟨o1, o2, hE1, d1, d2⟩ := CellsAre.two Y1; subst hE1; clear Y1
  (try simp only [List.cons_append, List.nil_append] at N1); (try dsimp only); (try k_lift B1); (try k_fold)
  have hsiK : Unit → IntsAre svs sides := fun _ => hsi
  have hwl : wvs.length = word.length := hst.length
  have hsvl : svs.length = sides.length := hsi.length
  k_steps
  refine Halt.go ?_
  k_dflt (refine LCg.Assign_ListComp_U (F₀ := by k_asm) (by rfl) (by with_unfolding_all rfl) (by with_unfolding_all rfl) (by decide) (by rfl) (by decide) (by rfl) (by rfl) (by rfl) ?_)
  replace d1 : o1.data = .cell (some (.ref sa)) := d1
  replace d2 : o2.data = .cell (some (.ref wa)) := d2
  replace F1 : Fr g1 L1 h1 (fun _ => none) := F1
  k_steps
  refine len_list (N1.isList (.tail _ (.tail _ hmem))) (by simp; omega) ?_
  k_steps
  rename IsRange _ _ _ _ _ _ _ _ => R1

  rename Fr g1 L1 _ _ => F2
  rename News g1 L1 _ _ => N2
  refine Halt.go (LCg.CompSrc.range (n := word.length) rfl F2 N2 R1 (small_one (by omega) (by omega) (by omega) (by omega)) (by rw [rangeSize_nat]; omega) (by simp [sizeLine]; omega) fun g => restU (fun i ys => IntsAre ys ((List.range i).map (turnedS word sides))) trivial ?_ ?_ _ 0 [] (Nat.zero_add _) .nil (Nat.le_refl _))
  · intro i ys v I oI C oC D m₂ h tk E' hi hJ hyl hv hC hx F' N' off ne
    obtain ⟨t, rfl⟩ := hv
    replace F' : Fr g1 L1 h (fun _ => none) := F'
    k_steps
    refine Halt.go (takeV F' N' (n := i + 1) (.tail _ (.tail _ (.tail _ (.tail _ (.tail _ hmem))))) (by omega) (by omega) fun D1 h3 F3 N3 hlt3 => ?_)
    k_steps
    refine Halt.go (max_strs rfl F3 N3 (.head _) (StrsAre.tk hst _) (by simp; omega) fun h4 tk4 t4 F4 N4 => ?_)
    clear F3 N3 F' N'
    k_steps
    obtain ⟨tw, htw⟩ := strs_at hst i hi
    refine item_list (N4.isList (.tail _ (.tail _ (.tail _ (.tail _ (.tail _ (.tail _ hmem))))))) (x := .str (word.getD i default) tw) (by omega) (by omega) (by simpa using htw) ?_
    k_steps
    · rename (_ == _) = true => hc
      obtain ⟨tq, htq⟩ := ints_at (hsiK ()) i (by omega)
      refine item_list (N4.isList (.tail _ (.tail _ (.tail _ (.tail _ (.tail _ (.tail _ hmem2))))))) (x := .int (sides.getD i 0) tq) (by omega) (by omega) (by simpa using htq) ?_
      k_steps
      refine ⟨_, _, _, rfl, F4, N4, fun p hp => .tail _ hp, ?_⟩
      rw [List.range_succ, List.map_append]
      have e : turnedS word sides i = sides.getD i 0 := by unfold turnedS; rw [if_pos (by simpa using hc)]
      rw [List.map_singleton, e]
      exact ints_snoc hJ _ _
    · rename (_ == _) = false => hc
      obtain ⟨tq, htq⟩ := ints_at (hsiK ()) i (by omega)
      refine item_list (N4.isList (.tail _ (.tail _ (.tail _ (.tail _ (.tail _ (.tail _ hmem2))))))) (x := .int (sides.getD i 0) tq) (by omega) (by omega) (by simpa using htq) ?_
      k_steps
      refine ⟨_, _, _, rfl, F4, N4, fun p hp => .tail _ hp, ?_⟩
      rw [List.range_succ, List.map_append]
      have e : turnedS word sides i = 1 - sides.getD i 0 := by unfold turnedS; rw [if_neg (by simpa using hc)]
      rw [List.map_singleton, e]
      exact ints_snoc hJ _ _
  · intro ys hJ hyl D h' tk' F' N' off
    have htl : ys.length = word.length := by rw [hJ.length]; simp
    try dsimp only
    k_steps
    refine Halt.go (forSrc ?_)
    k_steps
    refine len_list (N'.isList (.tail _ (.tail _ (.tail _ hmem)))) (by simp; omega) ?_
    k_steps
    rename IsRange _ _ _ _ _ _ _ _ => R2
    rename Fr g1 L1 _ _ => F5
    rename News g1 L1 _ _ => N5
    refine forRange (base := g1) (x := _) (n := word.length - 1) (news := _) rfl rfl rfl F5 N5 R2 (small_one (by omega) (by omega) (by omega) (by omega)) (by rw [rangeSize_nat]; omega)
      (fun i m nx => nx = (D, LCg.lst ys) :: (L1 + 1 + 1, o1) :: (L1 + 1, o2) :: rest ∧ m (Str.ofString "turned") = some (.ref D) ∧ ∀ k, 1 ≤ k → k < i + 1 → fitAt word sides k) ⟨rfl, rfl, fun k h1 h2 => by omega⟩ ?_ ?_
    · rintro i t m₁ news₁ h gn tk own E' hi ⟨rfl, e1, hk⟩ hoff F6 N6
      have F7 := Fr.put F6 [(Str.ofString "k", _), (Str.ofString "turned", _)] ⟨rfl, e1, trivial⟩
      simp only [putM] at F7
      change Fr g1 L1 h _ at F7
      change News g1 L1 h _ at N6
      simp only [List.cons_append] at N6
      clear F6 F5 N5
      k_steps
      refine Halt.go (takeV F7 N6 (n := i + 1) (.tail _ (.tail _ (.tail _ (List.mem_append.mpr (.inl hmem))))) (by omega) (by omega) fun D1 h3 F8 N7 hlt3 => ?_)
      k_steps
      refine Halt.go (max_strs rfl F8 N7 (.head _) (StrsAre.tk hst _) (by simp; omega) fun h4 tk4 t4 F9 N8 => ?_)
      clear F8 N7 F7 N6
      k_steps
      refine Halt.go (dropV F9 N8 (n := i + 1) (.tail _ (.tail _ (.tail _ (.tail _ (List.mem_append.mpr (.inl hmem)))))) (by omega) (by omega) fun D2 h5 F10 N9 hlt5 => ?_)
      k_steps
      refine Halt.go (min_strs rfl F10 N9 (.head _) (StrsAre.dr hst _) (by simp; omega) fun h6 tk6 t6 F11 N10 => ?_)
      clear F9 N8 F10 N9
      k_steps
      · rename _ ≠ _ => hne
        rename _ < _ => hgt
        try intro hb
        try dsimp only
        k_steps
        rename Fr h₀ L _ _ => F12
        rename News h₀ L _ _ => N12
        refine hret h6 gn _ false ?_ (fun z => hb (by assumption)) F12 (fun q hq => N12 q (.tail _ (.tail _ (.tail _ (.tail _ (.tail _ (List.mem_append_left own hq)))))))
        simp only [Bool.false_eq_true, false_iff]
        intro hall
        have := hall (i + 1) (by omega) (by omega) (decide_eq_true hgt)
        have e1 : (1 + (i : Int)).toNat = i + 1 := by omega
        have e2 : (1 + (i : Int) - 1).toNat = i := by omega
        rw [e1, e2] at hne
        exact hne (by simpa [List.getD, show i + 1 < word.length by omega, show i < word.length by omega] using this)
      · rename _ = _ => heq
        rename _ < _ => hgt
        refine ⟨h6, gn, _, _, _, (D, LCg.lst ys) :: (L1 + 1 + 1, o1) :: (L1 + 1, o2) :: rest, rfl, id, F11, N10, ?_, ?_, hoff, rfl, rfl, ?_⟩
        · intro p hp
          exact .tail _ (.tail _ (List.mem_append_left own hp))
        · intro p hp
          exact .tail _ (.tail _ (.tail _ (.tail _ (.tail _ (List.mem_append.mpr (.inr hp))))))
        · intro k hk1 hk2
          by_cases e : k = i + 1
          · subst e
            intro _
            have e1 : (1 + (i : Int)).toNat = i + 1 := by omega
            have e2 : (1 + (i : Int) - 1).toNat = i := by omega
            rw [e1, e2] at heq
            simpa [List.getD, show i + 1 < word.length by omega, show i < word.length by omega] using heq
          · exact hk k hk1 (by omega)
      · rename ¬ _ < _ => hgt
        refine ⟨h6, gn, _, _, _, (D, LCg.lst ys) :: (L1 + 1 + 1, o1) :: (L1 + 1, o2) :: rest, rfl, id, F11, N10, ?_, ?_, hoff, rfl, rfl, ?_⟩
        · intro p hp
          exact .tail _ (.tail _ (List.mem_append_left own hp))
        · intro p hp
          exact .tail _ (.tail _ (.tail _ (.tail _ (.tail _ (List.mem_append.mpr (.inr hp))))))
        · intro k hk1 hk2
          by_cases e : k = i + 1
          · subst e
            intro z
            exact absurd (of_decide_eq_true z) hgt
          · exact hk k hk1 (by omega)
    · rintro m₁ news₁ h gn tk ⟨rfl, e1, hk⟩ F6 N6 hbr
      have F7 := Fr.put F6 [(Str.ofString "turned", _)] ⟨e1, trivial⟩
      simp only [putM] at F7
      change Fr g1 L1 h _ at F7
      change News g1 L1 h _ at N6
      clear F6 F5 N5 
      try dsimp only
      k_steps
      rename Fr h₀ L _ _ => F12
      rename News h₀ L _ _ => N12
      exact hret h gn tk true (by simp only [true_iff]; intro k h1 h2; exact hk k h1 (by omega)) hbr F12 (fun q hq => N12 q (.tail _ (.tail _ (.tail _ hq))))
end
end
section
theorem fresh_N9 : True := by
  w_top off
  trivial
open PySem.W.X (SegX)
open PySem PySem.W PyProof.Rows PySem.Calls PySem.Spec

open Mine

section
local macro_rules | `(tactic| walk_at "eval IfExp") => `(tactic| refine Mine.Halt.mk ?_)
local macro_rules | `(tactic| walk_at "exec For Name Call cons nil") => `(tactic| refine Mine.Halt.mk ?_)
local macro_rules | `(tactic| walk_at "subscriptTail Name Slice ref ref") => `(tactic| refine Mine.Halt.mk ?_)
local macro_rules | `(tactic| walk_at "call builtin:sum") => `(tactic| refine Mine.Halt.mk ?_)
local macro_rules | `(tactic| walk_at "call builtin:sum cons nil") => `(tactic| refine Mine.Halt.mk ?_)
namespace Mine
section
variable {prog : Program} {w : World} {A : Around} {E : Value → Shared → Prop} {s : Shared} {h₀ : Heap} {L l : Addr} {m : Str → Option Value} {news : List (Addr × Obj)} {vs : List Value}

theorem stepV {value slice : Expr} {k st : Int} {u u' : Tok} {ops : List Value} {Q : Value → Shared → Prop} (F : Fr h₀ L s.heap m) (N : News h₀ L s.heap news) (hl : h₀.IsList l vs.toArray) (h0 : st ≠ 0) (hz : vs.length ≤ 1000)
    (h : ∀ D h', Fr h₀ L h' m → News h₀ L h' ((D, listOf (slicePick vs.toArray (some k) none (some st)).toList.toArray 0) :: news) → (∀ p ∈ news, p.1 < D) → Q (.ref D) { s with heap := h' })
    (hs : subscripted slice false (.ref l) (.ref s.heap.objs.size) = operate ops (getItem (.ref l) (.ref s.heap.objs.size)) := by with_unfolding_all rfl) (ht : ∀ r, letTemporaryGo value (.ref l) r = pure () := by (intro _; with_unfolding_all rfl)) :
    wpAny (model prog w) A (subscriptTail value slice (.ref l) (.ref s.heap.objs.size)) Q E { s with heap := s.heap.push { cls := .type "slice", data := .fields #[.int k u, .none, .int st u'] } } := by
  have hl' : s.heap.IsList l vs.toArray := let ⟨o, e, r⟩ := hl; ⟨o, F.keep l o e, r⟩
  exact kmk_slice3_lit F N hl' (.int _ _) .none (.int _ _) (by intro e; cases e; exact h0 rfl) rfl h hs ht (by simp [sizeLine]; omega)
end
/-- a unit: a sign, or a backslash and a sign -/
def unitOk (u : Str) : Prop := ∃ c, (u = ⟨#[92, c]⟩ ∧ (c = 34 ∨ c = 40 ∨ c = 92 ∨ c = 97 ∨ c = 98)) ∨ (u = ⟨#[c]⟩ ∧ (c = 40 ∨ c = 97 ∨ c = 98))
def CntP (g1 : Heap) (L1 sc : Addr) (mm : Str → Option Value) (rest : List (Addr × Obj)) (s : Shared) (v : Value) (s' : Shared) : Prop := ∃ c t h' tk, (c = 4 ∨ c = 5) ∧ v = .int c t ∧ s' = { s with heap := h', toks := tk } ∧ Fr g1 L1 h' (fun y => if y = Str.ofString "script" then some (.ref sc) else mm y) ∧ News g1 L1 h' rest
def UJ (ua sc : Addr) (c : Int) (rest : List (Addr × Obj)) (i : Nat) (m : Str → Option Value) (nx : List (Addr × Obj)) : Prop :=
  ∃ uvs us n tc, nx = (ua, listOf (List.toArray uvs) n) :: rest ∧ StrsAre uvs us ∧ us.length = i ∧ (∀ u ∈ us, unitOk u) ∧ m (Str.ofString "script") = some (.ref sc) ∧ m (Str.ofString "units") = some (.ref ua) ∧ m (Str.ofString "count") = some (.int c tc)
theorem uj_end {base : Heap} {L : Addr} {h' : Heap} {tk' : Nat} {s₁ : Shared} {m' : Str → Option Value} {ua sc : Addr} {c : Int} {rest own : List (Addr × Obj)} {x1 x2 x3 : Addr × Obj} {uvs : List Value} {us : List Str} {u : Str} {t tc : Tok} {n i : Nat} (F : Fr base L h' m')
    (N : News base L h' (x1 :: x2 :: x3 :: (ua, listOf (List.toArray (uvs ++ [Value.str u t])) (n + 1)) :: (rest ++ own))) (hu : StrsAre uvs us) (hul : us.length = i) (huo : ∀ u ∈ us, unitOk u) (hok : unitOk u) (hoff : OwnOff own (ua :: rest.map (·.1)))
    (e1 : m' (Str.ofString "script") = some (.ref sc)) (e2 : m' (Str.ofString "units") = some (.ref ua)) (e3 : m' (Str.ofString "count") = some (.int c tc)) : LEnd base L (UJ ua sc c rest (i + 1)) own s₁ { s₁ with heap := h', toks := tk' } :=
  ⟨h', s₁.gens, tk', m', _, (ua, listOf (List.toArray (uvs ++ [Value.str u t])) (n + 1)) :: rest, rfl, id, F, N, fun p hp => .tail _ (.tail _ (.tail _ (List.mem_append_left own hp))), fun p hp => .tail _ (.tail _ (.tail _ (.tail _ (List.mem_append_right _ hp)))), hoff,
    _, us ++ [u], _, tc, rfl, strs_snoc hu _ _, by simp [hul], fun v hv => (List.mem_append.mp hv).elim (huo v) fun z => by rw [List.mem_singleton.mp z]; exact hok, e1, e2, e3⟩
end Mine
set_option maxRecDepth 100000 in
set_option maxHeartbeats 8000000 in
theorem units_c {w : World} {mean : ExcName → Option Value} {mg mb : Str → Option Value} {loose : List Str}
   {dp un : Nat} {gd : Option (List Code)} {cn : Str} {cs : Scope} {a : Addr} {ccd : Value} {cl : List (Str × Addr)} {outer : List Env} {A₀ : Around} {base h₀ : Heap} {L : Addr} {m : Str → Option Value} {rest : List (Addr × Obj)} {s : Shared} {Q E : Value → Shared → Prop}
   (B : Below A₀ base outer h₀) (F : Fr h₀ L s.heap m) (X : (hd.heap_39 w.params).In h₀) (N : News h₀ L s.heap rest) (T : Top topProg loose mean mg mb h₀) (hk : cs.kind = .function)
   (sc : Addr) (svs : List Value) (ns : List Int) (hsi : IntsAre svs ns) (hsc : h₀.IsList sc svs.toArray) (hlen : ns.length ≤ 63) (hdp : dp + 6 < recursionLimit) (hun : un + 200 < cLine)
   (hret : ∀ h' gn tk' ua uvs us n, (us.length = 4 ∨ us.length = 5) → (∀ u ∈ us, unitOk u) → StrsAre uvs us → (AllBare s.gens → AllBare gn) → Fr h₀ L h' m → News h₀ L h' ((ua, listOf uvs.toArray n) :: rest) → (∀ q ∈ rest, q.1 < ua) → Q (.ref ua) { s with heap := h', gens := gn, toks := tk' }) :
   wpAny (model PySem.Challenge.rw_pg0087_01.row.prog w) (ktrTop dp un gd cn cs L a ccd cl outer) (call (.ref 53) [.ref sc]) Q E s := by
  revert X
  k_fill
  intro X
  refine wpAny_call ?_
  k_dflt (first | (refine' code_def ?k1 ?k2 ?k3 ?k4 ?k5 ?kA ?kF ?kK ?k6 ?k7 ?k8 ?k9 ?kB ?_ ?c2 ?c3 ?c4 ?c5; (case kA => exact rfl); (case kF => exact rfl); (case kK => assumption); (case k1 => k_asm); (case k2 => k_asm); (case k3 => k_asm); (case k4 => k_asm); (case k5 => k_asm); (case k6 => k_is); (case k7 => k_is); (case k8 => ktr_room); (case k9 => first | exact BindsTo.of_eq rfl | exact binds_K (by k_in) rfl (by k_is) rfl rfl rfl | (refine' kp_binds ?kx ?ke; (case kx => k_in); (case ke => exact fun _ => rfl))); (case c5 => decide); (case kB => exact locs rfl); (case c2 => exact rfl); (case c3 => exact rfl); (case c4 => exact rfl); k_whole) | (refine' code_defC ?k1 ?k2 ?k3 ?k4 ?k5 ?kA ?kF ?kK ?k6 ?k7 ?k8 ?k9 ?kB ?kD ?_ ?c2 ?c3 ?c4; (case kA => exact rfl); (case kF => exact rfl); (case kK => assumption); (case k1 => k_asm); (case k2 => k_asm); (case k3 => k_asm); (case k4 => k_asm); (case k5 => k_asm); (case k6 => k_is); (case k7 => k_is); (case k8 => ktr_room); (case k9 => first | exact BindsTo.of_eq rfl | exact binds_K (by k_in) rfl (by k_is) rfl rfl rfl | (refine' kp_binds ?kx ?ke; (case kx => k_in); (case ke => exact fun _ => rfl))); (case kB => exact rfl); (case kD => decide +kernel); (case c2 => exact rfl); (case c3 => exact rfl); (case c4 => exact rfl); k_whole))
  intro g1 L1 h1 FG1 F1 N1 B1 X1 T1
  (try dsimp only); (try k_lift B1); (try k_fold)
  have hsvl : svs.length = ns.length := hsi.length
  have hsiK : Unit → IntsAre svs ns := fun _ => hsi
  have hscK : g1.IsList sc svs.toArray := let ⟨o, e, r⟩ := hsc; ⟨o, FG1.keep sc o e, r⟩
  k_steps
  rename Fr g1 L1 _ _ => F1
  rename News g1 L1 _ _ => N1
  obtain ⟨mm, hmm, hmm2⟩ : ∃ mm, Fr g1 L1 h1 mm ∧ mm (Str.ofString "script") = some (.ref sc) := ⟨_, F1, rfl⟩
  have F1n := Fr.put hmm [(Str.ofString "script", _)] ⟨hmm2, trivial⟩
  simp only [putM] at F1n
  clear hmm F1
  refine Halt.go (wpAny_mono (Q := CntP g1 L1 sc mm rest s) ?_ (fun f s' hx => ?_) fun _ _ e => e)
  · refine IfExp_ ?_
    k_steps
    all_goals unfold CntP
    · exact ⟨4, _, _, _, .inl rfl, rfl, rfl, (by assumption), (by assumption)⟩
    · exact ⟨5, _, _, _, .inr rfl, rfl, rfl, (by assumption), (by assumption)⟩
  obtain ⟨c, tcc, h2, tk2, hc, rfl, rfl, F2, N2⟩ := hx
  clear F1n N1
  try dsimp only
  k_steps
  rename Fr g1 L1 _ _ => F2a
  rename News g1 L1 _ _ => N2a
  rename ∀ p ∈ rest, _ => hlt
  refine Halt.go (forSrc ?_)
  k_steps
  rename IsRange _ _ _ _ _ _ _ _ => R1
  rename Fr g1 L1 _ _ => F3
  rename News g1 L1 _ _ => N3
  refine forRange (base := g1) (x := _) (n := c.toNat) (news := _) rfl rfl rfl F3 N3 R1 (small_one (by omega) (by omega) (by omega) (by omega)) (by rw [rangeSize_nat]; omega) (UJ _ sc c rest) ⟨[], [], 0, _, rfl, .nil, rfl, (fun _ h => nomatch h), rfl, rfl, rfl⟩ ?_ ?_
  · rintro i t m₁ news₁ h gn tk own E' hi ⟨uvs, us, n, tc, rfl, hu, hul, huo, e1, e2, e3⟩ hoff F4 N4
    have F5 := Fr.put F4 [(Str.ofString "place", _), (Str.ofString "script", _), (Str.ofString "units", _), (Str.ofString "count", _)] ⟨rfl, e1, e2, e3, trivial⟩
    simp only [putM] at F5
    change Fr g1 L1 h _ at F5
    change News g1 L1 h _ at N4
    simp only [List.cons_append] at N4
    clear F4 F3 N3
    k_steps
    rename _ < _ ∧ AllLt _ _ => lm1
    rename Fr g1 L1 _ _ => F6
    rename News g1 L1 _ _ => N6
    refine Halt.go (stepV F6 N6 hscK (by omega) (by omega) (fun D h7 F7 N7 hlt7 => ?_))
    k_steps
    refine Halt.go (LSm.sum_ints F7 N7 rfl (N7.isList (.head _)) (IntsAre.pick (hsiK ()) _ _ _) fun h8 tk8 t8 F8 N8 => ?_)
    clear F6 N6 F7 N7
    k_steps
    rename _ < _ ∧ _ < _ ∧ _ < _ ∧ AllLt _ _ => lm2
    rename Fr g1 L1 _ _ => F9
    rename News g1 L1 _ _ => N9
    have hmod : ∀ z : Int, z.fmod 5 = 0 ∨ z.fmod 5 = 1 ∨ z.fmod 5 = 2 ∨ z.fmod 5 = 3 ∨ z.fmod 5 = 4 := fun z => by
      rw [Int.fmod_eq_emod_of_nonneg _ (by decide)]; omega
    generalize [1, 6, 0, 2, 8].getD (0 + (i : Int)).toNat 0 + (pickNums ns (some (0 + (i : Int))) none (some c)).sum = z at F9 ⊢
    rcases hmod z with e | e | e | e | e
    all_goals first
      | refine item_list (N9.isList (.head _)) (x := .str (Str.ofString "\"") _) (by omega) (by omega) (by rw [e]; rfl) ?_
      | refine item_list (N9.isList (.head _)) (x := .str (Str.ofString "(") _) (by omega) (by omega) (by rw [e]; rfl) ?_
      | refine item_list (N9.isList (.head _)) (x := .str (Str.ofString "\\") _) (by omega) (by omega) (by rw [e]; rfl) ?_
      | refine item_list (N9.isList (.head _)) (x := .str (Str.ofString "a") _) (by omega) (by omega) (by rw [e]; rfl) ?_
      | refine item_list (N9.isList (.head _)) (x := .str (Str.ofString "b") _) (by omega) (by omega) (by rw [e]; rfl) ?_
    all_goals k_steps
    all_goals refine Halt.go (IfExp_ ?_)
    all_goals k_steps
    all_goals try (exfalso; rename (List.isEmpty _) = _ => hoc; revert hoc; decide +kernel)
    all_goals rename Fr g1 L1 _ _ => F10
    all_goals rename News g1 L1 _ _ => N10
    all_goals first
     | refine append_K F10 N10 (.tail (Nat.ne_of_gt lm2.2.2.1) (.tail (Nat.ne_of_gt (hlt7 _ (.tail _ (.head _)))) (.tail (Nat.ne_of_gt lm1.1) (.head fun q hq => (List.mem_append.mp hq).elim (fun z => Nat.ne_of_lt (hlt q z)) fun z => hoff q z _ (.head _))))) (fun h11 F11 N11 => ?_) (by have := hu.length; simp [sizeLine]; omega)
    all_goals rw [List.push_toArray] at N11
    all_goals k_steps
    all_goals refine uj_end F11 N11 hu hul huo ?_ hoff rfl rfl rfl
    all_goals first
      | exact ⟨34, .inl ⟨by decide +kernel, by decide⟩⟩
      | exact ⟨40, .inl ⟨by decide +kernel, by decide⟩⟩
      | exact ⟨92, .inl ⟨by decide +kernel, by decide⟩⟩
      | exact ⟨97, .inl ⟨by decide +kernel, by decide⟩⟩
      | exact ⟨98, .inl ⟨by decide +kernel, by decide⟩⟩
      | exact ⟨40, .inr ⟨by decide +kernel, by decide⟩⟩
      | exact ⟨97, .inr ⟨by decide +kernel, by decide⟩⟩
      | exact ⟨98, .inr ⟨by decide +kernel, by decide⟩⟩
  · rintro m₁ news₁ h gn tk ⟨uvs, us, n, tc, rfl, hu, hul, huo, e1, e2, e3⟩ F4 N4 hbr
    have F5 := Fr.put F4 [(Str.ofString "script", _), (Str.ofString "units", _), (Str.ofString "count", _)] ⟨e1, e2, e3, trivial⟩
    simp only [putM] at F5
    change Fr g1 L1 h _ at F5
    change News g1 L1 h _ at N4
    try dsimp only
    k_steps
    rename Fr h₀ L _ _ => F12
    rename News h₀ L _ _ => N12
    exact hret h gn _ _ uvs us n (by omega) huo hu hbr F12 N12 hlt
end
end
section
open PySem PySem.W PyProof.Rows PySem.Calls PySem.Spec
namespace Mine
section
variable {prog : Program} {w : World} {A : Around} {s : Shared} {env : Env} {base : Heap}
def setP (a b : Str) (P : Nat → Value → Value → Prop) (i : Nat) (m m' : Str → Option Value) : Prop := ∃ v1 v2, P i v1 v2 ∧ m' = fun y => if y = b then some v2 else if y = a then some v1 else m y
/-- the state of a zip of two lists -/
def ZSt (z TI TO i1 i2 l1 l2 : Addr) (xs ys : Array Value) (i : Nat) (wr : List Addr) (s : Shared) : Prop :=
  wr = [z, TI, TO, i1, i2] ∧ (IsZip s.heap z TI TO .none ∧ IsPair s.heap TI (.ref i1) (.ref i2) ∧ (∃ a b, IsPair s.heap TO a b) ∧ s.heap.IsListIter i1 l1 i ∧ s.heap.IsListIter i2 l2 i ∧ s.heap.IsList l1 xs ∧ s.heap.IsList l2 ys)
theorem list_ne_ns {h : Heap} {l L : Addr} {xs : Array Value} {m : Str → Option Value} (hl : h.IsList l xs) (hn : h.Ns L m) : l ≠ L := by
  rintro rfl
  obtain ⟨o, e, _, n, hd⟩ := hl
  obtain ⟨o', es, ep, e', hd', _⟩ := hn
  rw [e] at e'; cases e'; rw [hd] at hd'; cases hd'
theorem ZSt.stay {z TI TO i1 i2 l1 l2 : Addr} {xs ys : Array Value} {i : Nat} {wr : List Addr} {s s' : Shared} (Z : ZSt z TI TO i1 i2 l1 l2 xs ys i wr s) (hk : ∀ c ∈ wr, ∀ o, s.heap.get? c = some o → s'.heap.get? c = some o) (h1 : s'.heap.IsList l1 xs) (h2 : s'.heap.IsList l2 ys) : ZSt z TI TO i1 i2 l1 l2 xs ys i wr s' := by
  obtain ⟨rfl, hz, hTI, ⟨a, b, hTO⟩, hi1, hi2, hl1, hl2⟩ := Z
  exact ⟨rfl, hk z (by simp) _ hz, hk TI (by simp) _ hTI, ⟨a, b, hk TO (by simp) _ hTO⟩, hi1.at fun o e => hk i1 (by simp) o e, hi2.at fun o e => hk i2 (by simp) o e, h1, h2⟩
theorem drvZ {z TI TO i1 i2 l1 l2 : Addr} {xs ys : Array Value} {a b : Str} {p1 p2 p3 : Pos} {k : Nat} (hh : A.handled = none) (D : ZipApart z TI TO i1 i2 l1 l2)
    (ha : env.kindOf a = some .local) (hb : env.kindOf b = some .local) (hp : (env.scope.kind == .class || (env.scope.kind == .module && env.locals != env.globals)) = false) :
    Drv prog w A base env.locals (.Tuple [.Name a p1, .Name b p2] k p3) env (.ref z) (min xs.size ys.size) (ZSt z TI TO i1 i2 l1 l2 xs ys) (setP a b fun i v1 v2 => xs[i]? = some v1 ∧ ys[i]? = some v2) where
  item := by
    intro i wr s m news Q E hi hI F N hf hQ
    obtain ⟨rfl, hst⟩ := hI
    have W := WalksT.zip2 (prog := prog) (w := w) hh z TI TO i1 i2 l1 l2 D xs ys
    have hl1 := list_ne_ns hst.2.2.2.2.2.1 F.ns
    have hl2 := list_ne_ns hst.2.2.2.2.2.2 F.ns
    have hwr : ∀ c ∈ [z, TO, i1, i2], c ∈ [z, TI, TO, i1, i2] := fun c hc => by simp at hc ⊢; rcases hc with rfl | rfl | rfl | rfl <;> simp
    refine W.item i _ _ _ hi hst fun T vals h' tk hP hT hTup hMid hk => ?_
    obtain ⟨x, y, hx, hy, rfl⟩ := hP
    have hTw := W.apart i T h' hMid
    refine W.go _ _ _ i T _ _ _ hMid fun h₂ hst₂ hk₂ => ?_
    have ft : ∀ {c o}, c ∉ [z, TO, i1, i2] → s.heap.get? c = some o → h₂.get? c = some o := fun hc e => hk₂ _ _ hc (hk _ _ hc e)
    have off : ∀ c, base.get? c ≠ none ∨ c = env.locals ∨ c ∈ news.map (·.1) → c ∉ [z, TO, i1, i2] := fun c hc hm => by
      obtain ⟨f1, f2, f3⟩ := hf c (hwr c hm)
      rcases hc with z | z | z
      · exact z f1
      · exact f2 z
      · exact f3 z
    have F' : Fr base env.locals h₂ m := ⟨F.ns.at' fun o e => ft (off _ (.inr (.inl rfl))) e, fun c o e => ft (off _ (.inl (by rw [e]; simp))) (F.keep c o e), F.above⟩
    have N' : News base env.locals h₂ news := fun q hq => ⟨ft (off _ (.inr (.inr (List.mem_map_of_mem hq)))) (N q hq).1, (N q hq).2⟩
    have hTup₂ : h₂.IsTuple T #[x, y] := by
      obtain ⟨o, e, r⟩ := hTup
      exact ⟨o, hk₂ _ _ hTw e, r⟩
    refine assign_pair hh hTup₂ F' rfl ha hb hp fun h₃ tk₃ F₃ hk₃ => ?_
    have N₃ : News base env.locals h₃ news := fun q hq => ⟨hk₃ _ _ (N' q hq).2.1 (N' q hq).1, (N' q hq).2⟩
    refine hQ [z, TI, TO, i1, i2] h₃ s.gens _ _ id ⟨x, y, ⟨hx, hy⟩, rfl⟩ F₃ N₃ hf ⟨rfl, ?_⟩
    obtain ⟨hz, hTI, ⟨u, v, hTO⟩, h1, h2, h3, h4⟩ := hst₂
    have nL : ∀ c ∈ [z, TI, TO, i1, i2], c ≠ env.locals := fun c hc => (hf c hc).2.1
    exact ⟨hk₃ _ _ (nL z (by simp)) hz, hk₃ _ _ (nL TI (by simp)) hTI, ⟨u, v, hk₃ _ _ (nL TO (by simp)) hTO⟩, h1.at fun o e => hk₃ _ o (nL i1 (by simp)) e, h2.at fun o e => hk₃ _ o (nL i2 (by simp)) e, h3.at fun o e => hk₃ _ o hl1 e, h4.at fun o e => hk₃ _ o hl2 e⟩
  done := by
    intro wr s m news Q E hI F N hf hQ
    obtain ⟨rfl, hst⟩ := hI
    have W := WalksT.zip2 (prog := prog) (w := w) hh z TI TO i1 i2 l1 l2 D xs ys
    have hwr : ∀ c ∈ [z, TO, i1, i2], c ∈ [z, TI, TO, i1, i2] := fun c hc => by simp at hc ⊢; rcases hc with rfl | rfl | rfl | rfl <;> simp
    refine W.done _ _ _ hst fun h' tk hk => ?_
    have off : ∀ c, base.get? c ≠ none ∨ c = env.locals ∨ c ∈ news.map (·.1) → c ∉ [z, TO, i1, i2] := fun c hc hm => by
      obtain ⟨f1, f2, f3⟩ := hf c (hwr c hm)
      rcases hc with z | z | z
      · exact z f1
      · exact f2 z
      · exact f3 z
    exact hQ h' s.gens tk id ⟨F.ns.at' fun o e => hk _ _ (off _ (.inr (.inl rfl))) e, fun c o e => hk _ _ (off _ (.inl (by rw [e]; simp))) (F.keep c o e), F.above⟩
      (fun q hq => ⟨hk _ _ (off _ (.inr (.inr (List.mem_map_of_mem hq)))) (N q hq).1, (N q hq).2⟩)
  self := by
    intro i wr s Q E hI hQ
    exact wpAny_pyIter_zip hI.2.1 hQ
  objs := by
    rintro i wr s ⟨rfl, hz, hTI, ⟨a, b, hTO⟩, ⟨o1, e1, _⟩, ⟨o2, e2, _⟩, _⟩ c hc
    simp only [List.mem_cons, List.not_mem_nil, or_false] at hc
    rcases hc with rfl | rfl | rfl | rfl | rfl
    · exact ⟨_, hz⟩
    · exact ⟨_, hTI⟩
    · exact ⟨_, hTO⟩
    · exact ⟨_, e1⟩
    · exact ⟨_, e2⟩
/-- a for loop over a zip of two lists of the ledger -/
theorem forZip {a b : Str} {p1 p2 p3 : Pos} {k : Nat} {body : List Stmt} {Q : Flow → Shared → Prop} {E : Value → Shared → Prop} {z TI TO i1 i2 l1 l2 : Addr} {xs ys : List Value} {m₀ : Str → Option Value} {news : List (Addr × Obj)}
    (hh : A.handled = none) (D : ZipApart z TI TO i1 i2 l1 l2) (ha : env.kindOf a = some .local) (hb : env.kindOf b = some .local) (hp : (env.scope.kind == .class || (env.scope.kind == .module && env.locals != env.globals)) = false)
    (F : Fr base env.locals s.heap m₀) (N : News base env.locals s.heap news) (Z : ZSt z TI TO i1 i2 l1 l2 xs.toArray ys.toArray 0 [z, TI, TO, i1, i2] s) (hf : Fresh base env.locals news [z, TI, TO, i1, i2]) (n : Nat) (hn1 : xs.length = n) (hn2 : ys.length = n)
    (J : Nat → (Str → Option Value) → List (Addr × Obj) → Prop) (hJ : J 0 m₀ news)
    (hat : ∀ i m' nx, J i m' nx → (∃ k, (l1, listOf xs.toArray k) ∈ nx) ∧ ∃ k, (l2, listOf ys.toArray k) ∈ nx)
    (turn : ∀ i v1 v2 m₁ news₁ h gn tk own E', i < n → xs[i]? = some v1 → ys[i]? = some v2 → J i m₁ news₁ → OwnOff own (news₁.map (·.1)) → Fr base env.locals h (fun y => if y = b then some v2 else if y = a then some v1 else m₁ y) → News base env.locals h (news₁ ++ own) →
      wpAny (model prog w) A (execs body env) (LPostD base env.locals (J (i + 1)) own { s with heap := h, gens := gn, toks := tk } (fun f s' => (AllBare s.gens → AllBare gn) → Q f s')) E' { s with heap := h, gens := gn, toks := tk })
    (done : ∀ m₁ news₁ h gn tk, J n m₁ news₁ → Fr base env.locals h m₁ → News base env.locals h news₁ → (AllBare s.gens → AllBare gn) → Q .next { s with heap := h, gens := gn, toks := tk }) :
    ForSrc prog w A (.Tuple [.Name a p1, .Name b p2] k p3) body env Q E (.ref z) s := by
  refine ⟨?_⟩
  refine wpAny_pyIter_zip Z.2.1 ?_
  have hmin : min xs.toArray.size ys.toArray.size = n := by simp [hn1, hn2]
  have Dv := drvZ (prog := prog) (w := w) (A := A) (base := base) (env := env) (xs := xs.toArray) (ys := ys.toArray) (p1 := p1) (p2 := p2) (p3 := p3) (k := k) hh D ha hb hp
  rw [hmin] at Dv
  refine forD Dv J ?_ (wr := [z, TI, TO, i1, i2]) Z F N hf hJ ?_ done
  · intro i wr s' h' gn tk m' nx hI hkeep F' N' hJ'
    obtain ⟨⟨k1, hk1⟩, k2, hk2⟩ := hat i m' nx hJ'
    exact hI.stay hkeep ⟨_, (N' _ hk1).1, rfl, _, rfl⟩ ⟨_, (N' _ hk2).1, rfl, _, rfl⟩
  · intro i m₁ m₂ news₁ h gn tk own E' hi hJ₁ hset hoff F₂ N₂
    obtain ⟨v1, v2, ⟨hv1, hv2⟩, rfl⟩ := hset
    exact turn i v1 v2 m₁ news₁ h gn tk own E' hi (by simpa using hv1) (by simpa using hv2) hJ₁ hoff F₂ N₂
end
end Mine
end
section
open PySem PySem.W PyProof.Rows PySem.Calls PySem.Spec
namespace Mine
structure Drv0 (prog : Program) (w : World) (A : Around) (base : Heap) (L : Addr) (target : Expr) (env : Env) (it : Value) (n : Nat) (I : Nat → List Addr → Shared → Prop) (sets : Nat → (Str → Option Value) → (Str → Option Value) → Prop) : Prop where
  item : ∀ i wr s m news Q E, i < n → I i wr s → Fr base L s.heap m → News base L s.heap news → Fresh base L news wr →
    (∀ wr' h' gn tk m', (AllBare s.gens → AllBare gn) → sets i m m' → Fr base L h' m' → News base L h' news → Fresh base L news wr' → I (i + 1) wr' { s with heap := h', gens := gn, toks := tk } → Q (some ()) { s with heap := h', gens := gn, toks := tk }) → Adv prog w A target env it Q E s
  done : ∀ wr s m news Q E, I n wr s → Fr base L s.heap m → News base L s.heap news → Fresh base L news wr →
    (∀ h' gn tk, (AllBare s.gens → AllBare gn) → Fr base L h' m → News base L h' news → Q none { s with heap := h', gens := gn, toks := tk }) → Adv prog w A target env it Q E s
  self : ∀ i wr s (Q : Value → Shared → Prop) E, I i wr s → Q it s → wpAny (model prog w) A (pyIter it) Q E s
theorem Drv.to0 {prog : Program} {w : World} {A : Around} {base : Heap} {L : Addr} {target : Expr} {env : Env} {it : Value} {n : Nat} {I : Nat → List Addr → Shared → Prop} {sets : Nat → (Str → Option Value) → (Str → Option Value) → Prop} (D : Drv prog w A base L target env it n I sets) : Drv0 prog w A base L target env it n I sets := ⟨D.item, D.done, D.self⟩
section
variable {prog : Program} {w : World} {A : Around} {s : Shared} {env : Env} {base : Heap} {L : Addr} {m : Str → Option Value} {news : List (Addr × Obj)}
theorem zipCall {l1 l2 : Addr} {xs ys : List Value} {k1 k2 : Nat} {Q : Value → Shared → Prop} {E : Value → Shared → Prop} (F : Fr base L s.heap m) (N : News base L s.heap news) (hl1 : (l1, listOf xs.toArray k1) ∈ news) (hl2 : (l2, listOf ys.toArray k2) ∈ news)
    (h : ∀ z TI TO i1 i2 h', ZipApart z TI TO i1 i2 l1 l2 → ZSt z TI TO i1 i2 l1 l2 xs.toArray ys.toArray 0 [z, TI, TO, i1, i2] { s with heap := h' } → Fr base L h' m → News base L h' news → Fresh base L news [z, TI, TO, i1, i2] → Q (.ref z) { s with heap := h' }) :
    wpAny (model prog w) A (call (.type "zip") [.ref l1, .ref l2]) Q E s := by
  have g1 := N.isList hl1
  have g2 := N.isList hl2
  refine call_zip_2 g1 g2 fun h' hz hTI hTO hi1 hi2 hsz hk => ?_
  have a1 : l1 < s.heap.objs.size := Heap.lt_size (N _ hl1).1
  have a2 : l2 < s.heap.objs.size := Heap.lt_size (N _ hl2).1
  refine h _ _ _ _ _ h' (zipApart_new a1 a2) ⟨rfl, hz, hTI, ⟨_, _, hTO⟩, hi1, hi2, Heap.IsList.at g1 (fun o e => hk _ o e), Heap.IsList.at g2 (fun o e => hk _ o e)⟩ (F.keeps hk) (N.grown hk) fun c hc => ?_
  refine fresh_at F N c ?_
  simp only [List.mem_cons, List.not_mem_nil, or_false] at hc
  rcases hc with rfl | rfl | rfl | rfl | rfl
  · exact Nat.le_add_right _ _
  · exact Nat.le_add_right _ _
  · exact Nat.le_add_right _ _
  · exact Nat.le_refl _
  · exact Nat.le_add_right _ _
/-- the state of a generator that has handed out i items -/
def GSt (prog : Program) (w : World) (A : Around) (L2 : Addr) (base : Heap) (ga : Addr) (g : Nat) (items : List (Nat × Str)) (i : Nat) (wr : List Addr) (s : Shared) : Prop :=
  ∃ wr0, wr = ga :: wr0 ∧ ga ∉ wr0 ∧ s.heap.IsGen ga g ∧ GenSt prog w A.in1 L2 base g wr0 (items.drop i) s
theorem drvG {L2 ga : Addr} {g : Nat} {items : List (Nat × Str)} {a b : Str} {p1 p2 p3 : Pos} {k : Nat} (hh : A.handled = none) (hl : base.NoLimit) (hroom : A.depth < recursionLimit)
    (ha : env.kindOf a = some .local) (hb : env.kindOf b = some .local) (hp : (env.scope.kind == .class || (env.scope.kind == .module && env.locals != env.globals)) = false) :
    Drv0 prog w A base env.locals (.Tuple [.Name a p1, .Name b p2] k p3) env (.ref ga) items.length (GSt prog w A L2 base ga g items) (setP a b fun i v1 v2 => ∃ p u t1 t2, items[i]? = some (p, u) ∧ v1 = .int (p : Nat) t1 ∧ v2 = .str u t2) where
  item := by
    intro i wr s m news Q E hi hI F N hf hQ
    obtain ⟨wr0, rfl, hga, hg, G⟩ := hI
    have keepFN : ∀ h' : Heap, (∀ c o, c ∉ wr0 → s.heap.get? c = some o → h'.get? c = some o) → Fr base env.locals h' m ∧ News base env.locals h' news ∧ h'.IsGen ga g := fun h' hk =>
      ⟨⟨F.ns.at' fun o e => hk _ o (fun hm => (hf _ (.tail _ hm)).2.1 rfl) e, fun c o e => hk c o (fun hm => by rw [(hf c (.tail _ hm)).1] at e; cases e) (F.keep c o e), F.above⟩,
        fun q hq => ⟨hk _ _ (fun hm => (hf _ (.tail _ hm)).2.2 (List.mem_map_of_mem hq)) (N q hq).1, (N q hq).2⟩,
        let ⟨o, nm, qn, ho, r⟩ := hg; ⟨o, nm, qn, hk _ _ hga ho, r⟩⟩
    refine gen_next hh hl hroom (fun c o e => F.keep c o e) hg G ?_ ?_
    · intro e
      have := congrArg List.length e
      simp at this
      omega
    · rintro p u rest he tp t1 t2 wr₂ h' gn' tk' hk hsub ht hsz hoth hbr G₂
      obtain ⟨F₁, N₁, hg₁⟩ := keepFN h' hk
      have hit : items[i]? = some (p, u) := by
        have := congrArg (fun l => l[0]?) he
        simpa using this
      have hrest : rest = items.drop (i + 1) := by
        have := congrArg List.tail he
        simpa using this.symm
      refine letGo_gen hg₁ ?_
      refine assign_pair hh ⟨_, ht, rfl, _, rfl⟩ F₁ rfl ha hb hp fun h₃ tk₃ F₃ hk₃ => ?_
      have hwr₂ : ∀ c ∈ wr₂, base.get? c = none ∧ c ≠ env.locals ∧ c ∉ news.map (·.1) := fun c hc => by
        rcases hsub c hc with z | z
        · exact hf c (.tail _ z)
        · exact fresh_at F N c z
      have hga₂ : ga ∉ wr₂ := fun hm => by
        rcases hsub ga hm with z | z
        · exact hga z
        · obtain ⟨o, _, _, ho, _⟩ := hg
          exact absurd (Heap.lt_size ho) (Nat.not_lt.mpr z)
      have N₃ : News base env.locals h₃ news := fun q hq => ⟨hk₃ _ _ (N₁ q hq).2.1 (N₁ q hq).1, (N₁ q hq).2⟩
      refine hQ (ga :: wr₂) h₃ gn' tk₃ _ hbr ⟨_, _, ⟨p, u, t1, t2, hit, rfl, rfl⟩, rfl⟩ F₃ N₃ (fun c hc => ?_) ⟨wr₂, rfl, hga₂, ?_, ?_⟩
      · rcases List.mem_cons.mp hc with rfl | hc
        · exact hf _ (.head _)
        · exact hwr₂ c hc
      · obtain ⟨o, nm, qn, ho, r⟩ := hg₁
        exact ⟨o, nm, qn, hk₃ _ _ (hf ga (.head _)).2.1 ho, r⟩
      · rw [← hrest]
        exact G₂.frame rfl fun c hc o e => hk₃ _ _ (hwr₂ c hc).2.1 e
  done := by
    intro wr s m news Q E hI F N hf hQ
    obtain ⟨wr0, rfl, hga, hg, G⟩ := hI
    have keepFN : ∀ h' : Heap, (∀ c o, c ∉ wr0 → s.heap.get? c = some o → h'.get? c = some o) → Fr base env.locals h' m ∧ News base env.locals h' news := fun h' hk =>
      ⟨⟨F.ns.at' fun o e => hk _ o (fun hm => (hf _ (.tail _ hm)).2.1 rfl) e, fun c o e => hk c o (fun hm => by rw [(hf c (.tail _ hm)).1] at e; cases e) (F.keep c o e), F.above⟩,
        fun q hq => ⟨hk _ _ (fun hm => (hf _ (.tail _ hm)).2.2 (List.mem_map_of_mem hq)) (N q hq).1, (N q hq).2⟩⟩
    rw [List.drop_length] at G
    refine gen_next hh hl hroom (fun c o e => F.keep c o e) hg G ?_ ?_
    · rintro _ h' gn' tk' hk hsz hoth hbr
      obtain ⟨F₁, N₁⟩ := keepFN h' hk
      exact hQ h' gn' tk' hbr F₁ N₁
    · intro p u rest e; cases e
  self := by
    intro i wr s Q E hI hQ
    obtain ⟨wr0, rfl, hga, hg, G⟩ := hI
    exact wpAny_pyIter_gen hg hQ
end
end Mine
end
section
open PySem PySem.W PyProof.Rows PySem.Calls PySem.Spec
namespace Mine
def CompInv1 (h₀ : Heap) (L C D : Addr) (m : Str → Option Value) (I : Nat → List Addr → Shared → Prop) (Jr : Nat → List Value → Prop) (news : List (Addr × Obj)) (s : Shared) (n : Nat) (k : Nat) (s' : Shared) : Prop :=
  ∃ h gn tk i wr' m' ys nn, k = n + 1 - i ∧ i ≤ n ∧ s' = { s with heap := h, gens := gn, toks := tk } ∧ (AllBare s.gens → AllBare gn) ∧ I i wr' s' ∧ Fr h₀ L h m ∧ h.Ns C m' ∧ News h₀ L h ((D, listOf (List.toArray ys) nn) :: news) ∧ Fresh h₀ L news wr' ∧ C ∉ wr' ∧ D ∉ wr' ∧ Jr i ys ∧ ys.length ≤ i
section
variable {prog : Program} {w : World} {A : Around} {s : Shared} {env : Env} {h₀ : Heap} {L C D : Addr} {m : Str → Option Value} {target : Expr} {it : Value} {n : Nat} {I : Nat → List Addr → Shared → Prop} {sets : Nat → (Str → Option Value) → (Str → Option Value) → Prop}
theorem compD1 {elt iter : Expr} {ifs : List Expr} {scope sc : Scope} {cl : List (Str × Addr)} {pos : Pos} {R : Result → Shared → Prop} {wr : List Addr} {m₀ : Str → Option Value} {news : List (Addr × Obj)} (Dv : Drv0 prog w A h₀ C target (compEnvC sc cl C env) it n I sets) (hn : n ≤ 1000)
    (Jr : Nat → List Value → Prop)
    (stay : ∀ D i wr s h' gn tk o, I i wr s → (∀ c ∈ wr, ∀ o, s.heap.get? c = some o → h'.get? c = some o) → Fr h₀ L h' m → News h₀ L h' ((D, o) :: news) → gn = s.gens → I i wr { s with heap := h', gens := gn, toks := tk })
    (hI : I 0 wr s) (F : Fr h₀ L s.heap m) (hns : s.heap.Ns C m₀) (N : News h₀ L s.heap ((D, listOf #[] 0) :: news)) (hwr : Fresh h₀ L news wr) (hCw : C ∉ wr) (hDw : D ∉ wr) (hJ : Jr 0 [])
    (hC₀ : h₀.get? C = none) (hCL : C ≠ L) (hCab : h₀.objs.size ≤ C) (hCn : ∀ p ∈ news, p.1 ≠ C) (hCD : C ≠ D) (hD : ∀ p ∈ news, p.1 ≠ D)
    (turn : ∀ D oC i m₁ m₂ ys nn h gn tk own (E' : Value → Shared → Prop), i < n → Jr i ys → ys.length ≤ i → sets i m₁ m₂ → LCg.NsObj oC m₂ → C ≠ D → (∀ p ∈ news, p.1 ≠ D) → OwnOff own (C :: D :: news.map (·.1)) → Fr h₀ L h m → News h₀ L h ((C, oC) :: (D, listOf (List.toArray ys) nn) :: (news ++ own)) →
      wpAny (model prog w) A (tests ifs (compEnvC sc cl C env)) (fun ok s₃ => if ok = true then wpAny (model prog w) A (eval elt (compEnvC sc cl C env)) (fun x s₄ => TEnd h₀ L m ((C, oC) :: (D, listOf (List.toArray ys) nn) :: (news ++ own)) (Jr (i + 1) (ys ++ [x])) { s with heap := h, gens := gn, toks := tk } s₄) E' s₃
        else TEnd h₀ L m ((C, oC) :: (D, listOf (List.toArray ys) nn) :: (news ++ own)) (Jr (i + 1) ys) { s with heap := h, gens := gn, toks := tk } s₃) E' { s with heap := h, gens := gn, toks := tk })
    (done : ∀ ys nn m₁ h gn tk, Jr n ys → ys.length ≤ n → Fr h₀ L h m → h.Ns C m₁ → News h₀ L h ((D, listOf (List.toArray ys) nn) :: news) → (AllBare s.gens → AllBare gn) → R (.ok .next) { s with heap := h, gens := gn, toks := tk }) :
    codeAny (model prog w) A (.compLoop (.ListComp elt [⟨target, iter, ifs, 0⟩] scope pos) 0 it (.ref D) (compEnvC sc cl C env)) R s := by
  refine compLoop_any (CompInv1 h₀ L C D m I Jr news s n) ?_ (n + 1)
    ⟨s.heap, s.gens, s.toks, 0, wr, m₀, [], 0, rfl, Nat.zero_le _, rfl, id, hI, F, hns, N, hwr, hCw, hDw, hJ, Nat.le_refl _⟩
  rintro k s' E' ⟨h, gn, tk, i, wr', m', ys, nn, rfl, hi, rfl, hbare, hI', F', hns', N', hwr', hCw', hDw', hJ', hys⟩
  have hL₀ : h₀.get? L = none := by
    cases e : h₀.get? L with
    | none => rfl
    | some o => exact absurd (Heap.lt_size e) (Nat.not_lt.mpr F.above)
  have hDL : D ≠ L := (N _ (.head _)).2.1
  have hD₀ : h₀.get? D = none := (N _ (.head _)).2.2
  obtain ⟨oL, heL, hoL⟩ := LCg.ns_obj F'.ns
  have FC : Fr h₀ C h m' := ⟨hns', F'.keep, hCab⟩
  have NC : News h₀ C h ((D, listOf (List.toArray ys) nn) :: (L, oL) :: news) := fun p hp => by
    rcases List.mem_cons.mp hp with rfl | hp
    · exact ⟨(N' _ (.head _)).1, Ne.symm hCD, hD₀⟩
    · rcases List.mem_cons.mp hp with rfl | hp
      · exact ⟨heL, Ne.symm hCL, hL₀⟩
      · exact ⟨(N' p (.tail _ hp)).1, hCn p hp, (N' p (.tail _ hp)).2.2⟩
  have fC : Fresh h₀ C ((D, listOf (List.toArray ys) nn) :: (L, oL) :: news) wr' := fun c hc => by
    obtain ⟨f1, f2, f3⟩ := hwr' c hc
    refine ⟨f1, fun e => hCw' (e ▸ hc), fun hm => ?_⟩
    rcases List.mem_cons.mp hm with e | hm
    · have e' : c = D := e
      rw [e'] at hc; exact hDw' hc
    · rcases List.mem_cons.mp hm with e | hm
      · exact f2 e
      · exact f3 hm
  by_cases hlt : i < n
  · refine Adv.go (Q0 := fun _ => False) (Q1 := fun s₂ => wpAny (model prog w) A (tests ifs (compEnvC sc cl C env)) (fun ok s₃ =>
            if ok = true then wpAny (model prog w) A (eval elt (compEnvC sc cl C env)) (fun x s₄ =>
              wpAny (model prog w) A (call (.builtin "list.append") [.ref D, x]) (fun _ s₅ => ∃ k', k' < n + 1 - i ∧ CompInv1 h₀ L C D m I Jr news s n k' s₅) E' s₄) E' s₃
            else ∃ k', k' < n + 1 - i ∧ CompInv1 h₀ L C D m I Jr news s n k' s₃) E' s₂) (Dv.item i wr' _ m' _ _ _ hlt hI' FC NC fC ?_) (fun _ z => z.elim) (fun _ _ z => z)
    intro wr₂ h₂ gn₂ tk₂ m₂ hb₂ hset F₂ N₂ hwr₂ hI₂
    have FL₂ : Fr h₀ L h₂ m := ⟨hoL.ns (N₂ (L, oL) (.tail _ (.head _))).1, F₂.keep, F.above⟩
    obtain ⟨oC, heC, hoC⟩ := LCg.ns_obj F₂.ns
    have hwr₂' : Fresh h₀ L news wr₂ := fun c hc => by
      obtain ⟨f1, f2, f3⟩ := hwr₂ c hc
      exact ⟨f1, fun e => f3 (by simp [e]), fun hm => f3 (.tail _ (.tail _ hm))⟩
    have hCw₂ : C ∉ wr₂ := fun hc => (hwr₂ C hc).2.1 rfl
    have hDw₂ : D ∉ wr₂ := fun hc => (hwr₂ D hc).2.2 (.head _)
    have own_facts : ∀ q ∈ objsAt h₂ wr₂, q.1 ∈ wr₂ ∧ h₂.get? q.1 = some q.2 := objsAt_sub _
    have NL₂ : News h₀ L h₂ ((C, oC) :: (D, listOf (List.toArray ys) nn) :: (news ++ objsAt h₂ wr₂)) := fun p hp => by
      rcases List.mem_cons.mp hp with rfl | hp
      · exact ⟨heC, hCL, hC₀⟩
      · rcases List.mem_cons.mp hp with rfl | hp
        · exact ⟨(N₂ _ (.head _)).1, hDL, hD₀⟩
        · rcases List.mem_append.mp hp with hp | hp
          · exact ⟨(N₂ p (.tail _ (.tail _ hp))).1, (N' p (.tail _ hp)).2⟩
          · obtain ⟨q1, q2⟩ := own_facts p hp
            exact ⟨q2, (hwr₂' _ q1).2.1, (hwr₂' _ q1).1⟩
    have hoff : OwnOff (objsAt h₂ wr₂) (C :: D :: news.map (·.1)) := fun q hq c hc e => by
      obtain ⟨q1, _⟩ := own_facts q hq
      rcases List.mem_cons.mp hc with rfl | hc
      · exact hCw₂ (e ▸ q1)
      · rcases List.mem_cons.mp hc with rfl | hc
        · exact hDw₂ (e ▸ q1)
        · exact (hwr₂' _ q1).2.2 (e ▸ hc)
    have hbb : AllBare s.gens → AllBare gn₂ := fun z => hb₂ (hbare z)
    have st : ∀ (h₄ : Heap) (tk₄ : Nat) (all : List (Addr × Obj)) (o : Obj), Fr h₀ L h₄ m → News h₀ L h₄ all → (∀ p ∈ objsAt h₂ wr₂, p ∈ all) → News h₀ L h₄ ((D, o) :: news) → I (i + 1) wr₂ { s with heap := h₄, gens := gn₂, toks := tk₄ } := fun h₄ tk₄ all o F₄ N₄ ho N₅ =>
      stay D (i + 1) wr₂ { s with heap := h₂, gens := gn₂, toks := tk₂ } h₄ gn₂ tk₄ o hI₂ (fun c hc o e => (N₄ _ (ho _ (objsAt_mem e _ hc))).1) F₄ N₅ rfl
    refine wpAny_mono (turn D oC i m' m₂ ys nn h₂ gn₂ tk₂ (objsAt h₂ wr₂) E' hlt hJ' hys hset hoC hCD hD hoff FL₂ NL₂) (fun ok s₃ hok => ?_) fun _ _ e => e
    cases ok with
    | false =>
      simp only [Bool.false_eq_true, if_false] at hok ⊢
      obtain ⟨h₄, tk₄, all, rfl, F₄, N₄, hk₄, hP⟩ := hok
      have N₅ : News h₀ L h₄ ((D, listOf (List.toArray ys) nn) :: news) := fun q hq => N₄ q (hk₄ q (.tail _ (by
        rcases List.mem_cons.mp hq with rfl | hq
        · exact .head _
        · exact .tail _ (List.mem_append_left _ hq))))
      exact ⟨n + 1 - (i + 1), by omega, h₄, gn₂, tk₄, i + 1, wr₂, m₂, ys, nn, rfl, hlt, rfl, hbb, st h₄ tk₄ all _ F₄ N₄ (fun q hq => hk₄ q (.tail _ (.tail _ (List.mem_append_right _ hq)))) N₅, F₄, hoC.ns (N₄ _ (hk₄ _ (.head _))).1, N₅, hwr₂', hCw₂, hDw₂, hP, by omega⟩
    | true =>
      simp only [if_true] at hok ⊢
      refine wpAny_mono hok (fun x s₄ hx => ?_) fun _ _ e => e
      obtain ⟨h₄, tk₄, all, rfl, F₄, N₄, hk₄, hP⟩ := hx
      have N₅ : News h₀ L h₄ ((D, listOf (List.toArray ys) nn) :: (C, oC) :: (news ++ objsAt h₂ wr₂)) := fun q hq => N₄ q (hk₄ q (by
        rcases List.mem_cons.mp hq with rfl | hq
        · exact .tail _ (.head _)
        · rcases List.mem_cons.mp hq with rfl | hq
          · exact .head _
          · exact .tail _ (.tail _ hq)))
      refine append_K F₄ N₅ (.head fun q hq => ?_) (fun h₅ F₅ N₆ => ?_) (by simp [sizeLine]; omega)
      · rcases List.mem_cons.mp hq with rfl | hq
        · exact hCD
        · rcases List.mem_append.mp hq with z | z
          · exact hD q z
          · exact hoff q z D (.tail _ (.head _))
      · rw [List.push_toArray] at N₆
        have N₇ : News h₀ L h₅ ((D, listOf (List.toArray (ys ++ [x])) (nn + 1)) :: news) := fun q hq => N₆ q (by
          rcases List.mem_cons.mp hq with rfl | hq
          · exact .head _
          · exact .tail _ (.tail _ (List.mem_append_left _ hq)))
        exact ⟨n + 1 - (i + 1), by omega, h₅, gn₂, tk₄, i + 1, wr₂, m₂, ys ++ [x], nn + 1, rfl, hlt, rfl, hbb, st h₅ tk₄ _ _ F₅ N₆ (fun q hq => .tail _ (.tail _ (List.mem_append_right _ hq))) N₇, F₅, hoC.ns (N₆ _ (.tail _ (.head _))).1, N₇, hwr₂', hCw₂, hDw₂, hP, by simp; omega⟩
  · have hin : i = n := by omega
    subst hin
    refine Adv.go (Q0 := fun s₃ => R (.ok .next) s₃) (Q1 := fun _ => False) (Dv.done wr' _ m' _ _ _ hI' FC NC fC ?_) (fun _ z => z) (fun _ _ z => wpAny_mono z (fun _ _ y => wpAny_mono y (fun _ _ f => f.elim) fun _ _ e => e) fun _ _ e => e)
    intro h₂ gn₂ tk₂ hb₂ F₂ N₂
    refine done ys nn m' h₂ gn₂ tk₂ hJ' hys ⟨hoL.ns (N₂ (L, oL) (.tail _ (.head _))).1, F₂.keep, F.above⟩ F₂.ns (fun p hp => ?_) fun z => hb₂ (hbare z)
    rcases List.mem_cons.mp hp with rfl | hp
    · exact ⟨(N₂ _ (.head _)).1, hDL, hD₀⟩
    · exact ⟨(N₂ p (.tail _ (.tail _ hp))).1, (N' p (.tail _ hp)).2⟩
end
theorem escI_len : ∀ (cs : List Nat) (i : Nat) (e : Bool) (l : Nat), (escI cs i e l).length ≤ cs.length + 1
  | [], _, false, _ => Nat.zero_le _
  | [], _, true, _ => Nat.le_refl _
  | c :: cs, i, true, l => by have := escI_len cs (i + 1) false i; simp [escI]; omega
  | c :: cs, i, false, l => by
    have h1 := escI_len cs (i + 1) false i
    have h2 := escI_len cs (i + 1) true i
    simp only [escI]
    split <;> simp <;> omega
theorem escI_unit : ∀ (cs : List Nat) (i : Nat) (e : Bool) (l : Nat), ∀ q ∈ escI cs i e l, 0 < q.2.length
  | [], _, false, _, q, h => nomatch h
  | [], _, true, _, q, h => by rw [List.mem_singleton.mp h]; exact Nat.zero_lt_one
  | c :: cs, i, true, l, q, h => by
    simp only [escI] at h
    rcases List.mem_cons.mp h with rfl | h
    · exact Nat.zero_lt_two
    · exact escI_unit cs _ _ _ q h
  | c :: cs, i, false, l, q, h => by
    simp only [escI] at h
    split at h
    · exact escI_unit cs _ _ _ q h
    · rcases List.mem_cons.mp h with rfl | h
      · exact Nat.zero_lt_one
      · exact escI_unit cs _ _ _ q h
/-- what a comprehension over it must do -/
structure CompSrcD (prog : Program) (w : World) (A : Around) (h₀ : Heap) (L : Addr) (m : Str → Option Value) (env : Env) (elt target : Expr) (ifs : List Expr) (scope : Scope) (cl : List (Str × Addr)) (Q : Value → Shared → Prop) (it : Value) (s₂ : Shared) : Prop where
  mk :: (out : ∃ (n : Nat) (I : Nat → List Addr → Shared → Prop) (sets : Nat → (Str → Option Value) → (Str → Option Value) → Prop) (wr : List Addr) (news : List (Addr × Obj)) (Jr : Nat → List Value → Prop),
    n ≤ 1000 ∧ (∀ C, Drv0 prog w A h₀ C target (compEnvC scope cl C env) it n I sets) ∧ (∀ h' tk, (∀ b o, s₂.heap.get? b = some o → h'.get? b = some o) → I 0 wr { s₂ with heap := h', toks := tk }) ∧
    Fr h₀ L s₂.heap m ∧ News h₀ L s₂.heap news ∧ Fresh h₀ L news wr ∧ (∀ c ∈ wr, c < s₂.heap.objs.size) ∧ Jr 0 [] ∧
    (∀ D i wr s h' gn tk o, I i wr s → (∀ c ∈ wr, ∀ o, s.heap.get? c = some o → h'.get? c = some o) → Fr h₀ L h' m → News h₀ L h' ((D, o) :: news) → gn = s.gens → I i wr { s with heap := h', gens := gn, toks := tk }) ∧
    (∀ C D oC i m₁ m₂ ys nn h gn tk own (E' : Value → Shared → Prop), i < n → Jr i ys → ys.length ≤ i → sets i m₁ m₂ → LCg.NsObj oC m₂ → C ≠ D → (∀ p ∈ news, p.1 ≠ D) → OwnOff own (C :: D :: news.map (·.1)) → Fr h₀ L h m → News h₀ L h ((C, oC) :: (D, listOf (List.toArray ys) nn) :: (news ++ own)) →
      wpAny (model prog w) A (tests ifs (compEnvC scope cl C env)) (fun ok s₃ => if ok = true then wpAny (model prog w) A (eval elt (compEnvC scope cl C env)) (fun x s₄ => TEnd h₀ L m ((C, oC) :: (D, listOf (List.toArray ys) nn) :: (news ++ own)) (Jr (i + 1) (ys ++ [x])) { s₂ with heap := h, gens := gn, toks := tk } s₄) E' s₃
        else TEnd h₀ L m ((C, oC) :: (D, listOf (List.toArray ys) nn) :: (news ++ own)) (Jr (i + 1) ys) { s₂ with heap := h, gens := gn, toks := tk } s₃) E' { s₂ with heap := h, gens := gn, toks := tk }) ∧
    (∀ ys nn D h gn tk, Jr n ys → ys.length ≤ n → Fr h₀ L h m → News h₀ L h ((D, listOf (List.toArray ys) nn) :: news) → (∀ p ∈ news, p.1 < D) → (AllBare s₂.gens → AllBare gn) → Q (.ref D) { s₂ with heap := h, gens := gn, toks := tk }))
section
variable {prog : Program} {w : World} {A : Around} {s : Shared} {env : Env} {h₀ : Heap} {L : Addr} {m : Str → Option Value} {E : Value → Shared → Prop}
theorem listCompD {hh : Heap} (_ : Fr h₀ L hh m) {elt target iter : Expr} {ifs : List Expr} {scope : Scope} {cl : List (Str × Addr)} {pos : Pos} {Q : Value → Shared → Prop}
    (hclos : closureFor scope env = pure cl) (hcell : ∀ y ∈ scope.names, y.2 ≠ .cell) (hkind : scope.kind = .function)
    (hnames : ∀ y ∈ scope.names, y.2 = .local → scope.names.lookup y.1 = some .local)
    (h : wpAny (model prog w) A (eval iter env) (fun xv s₁ => wpAny (model prog w) A (pyIter xv) (CompSrcD prog w A h₀ L m env elt target ifs scope cl Q) E s₁) E s)
    (hs : ∀ x, foldedSetIterable iter env x = pure x := by intro _; rfl) :
    wpAny (model prog w) A (eval (.ListComp elt [⟨target, iter, ifs, 0⟩] scope pos) env) Q E s := by
  rw [eval_ListComp]
  refine wpAny_comprehension_free (use := none) rfl hs hclos hkind hnames (wpAny_mono h (fun xv s₁ h₁ => wpAny_mono h₁ (fun it s₂ h₂ => ?_) fun _ _ e => e) fun _ _ e => e)
  obtain ⟨n, I, sets, wr, news, Jr, hn, Dv, hI, F, N, hf, hwlt, hJ, stay, turn, done⟩ := h₂.out
  refine wpAny_newObj_type (wpAny_newFunctionEnv hcell (by intro y hy; simp at hy) (fun h₁ hns₁ hsb₁ => ?_) hkind)
  dsimp only at hns₁ hsb₁ ⊢
  generalize hH2 : s₂.heap.push { cls := .type "list", dict := none, data := .seq ([] : List Value).toArray } = H2 at hns₁ hsb₁ ⊢
  have hC : H2.objs.size = s₂.heap.objs.size + 1 := by rw [← hH2, Heap.size_push]
  have hDC : s₂.heap.objs.size ≠ H2.objs.size := by rw [hC]; exact Nat.ne_of_lt (Nat.lt_succ_self _)
  have below : ∀ b, b < s₂.heap.objs.size → b ≠ H2.objs.size ∧ b ≠ s₂.heap.objs.size := fun b hb => ⟨by rw [hC]; exact Nat.ne_of_lt (Nat.lt_succ_of_lt hb), Nat.ne_of_lt hb⟩
  have old : ∀ b o, s₂.heap.get? b = some o → h₁.get? b = some o := fun b o e => hsb₁.extBut b o (below b (Heap.lt_size e)).1 (Heap.get?_push_of_some _ (hH2 ▸ Heap.get?_push_of_some _ e))
  have hacc : h₁.get? s₂.heap.objs.size = some (listOf #[] 0) := hsb₁.extBut _ _ hDC (Heap.get?_push_of_some _ (hH2 ▸ Heap.get?_push_size _ rfl))
  have fresh₀ : ∀ a, s₂.heap.objs.size ≤ a → h₀.get? a = none := fun a ha => by
    cases e : h₀.get? a with
    | none => rfl
    | some o' => exact absurd (Heap.lt_size (F.keep a o' e)) (Nat.not_lt.mpr ha)
  have hD₀ : h₀.get? s₂.heap.objs.size = none := fresh₀ _ (Nat.le_refl _)
  have hC₀ : h₀.get? H2.objs.size = none := fresh₀ _ (by rw [hC]; exact Nat.le_succ _)
  have hLlt : L < s₂.heap.objs.size := F.ns.lt
  have hCL : H2.objs.size ≠ L := Ne.symm (below L hLlt).1
  have hCab : h₀.objs.size ≤ H2.objs.size := by rw [hC]; exact Nat.le_trans F.above (Nat.le_trans (Nat.le_of_lt hLlt) (Nat.le_succ _))
  have hnlt : ∀ p ∈ news, p.1 < s₂.heap.objs.size := fun p hp => Heap.lt_size (N p hp).1
  have NL : News h₀ L h₁ ((s₂.heap.objs.size, listOf #[] 0) :: news) := fun p hp => by
    rcases List.mem_cons.mp hp with rfl | hp
    · exact ⟨hacc, Ne.symm (Nat.ne_of_lt hLlt), hD₀⟩
    · exact ⟨old _ _ (N p hp).1, (N p hp).2⟩
  have loop : ∀ s₃ : Shared, s₃ = { s₂ with heap := h₁, toks := s₂.toks + ([] : List (Str × Value)).length } →
      codeAny (model prog w) A (.compLoop (.ListComp elt [⟨target, iter, ifs, 0⟩] scope pos) 0 it (.ref s₂.heap.objs.size) (compEnvC scope cl H2.objs.size env))
        (compPost (model prog w) A E none Q (.ref s₂.heap.objs.size) H2.objs.size) s₃ := by
    rintro s₃ rfl
    refine compD1 (h₀ := h₀) (L := L) (m := m) (Dv H2.objs.size) hn Jr stay (hI _ _ old) (F.keeps old) hns₁ NL hf (fun hc => (below _ (hwlt _ hc)).1 rfl) (fun hc => (below _ (hwlt _ hc)).2 rfl) hJ hC₀ hCL hCab (fun p hp => (below _ (hnlt p hp)).1) (Ne.symm hDC) (fun p hp => (below _ (hnlt p hp)).2) ?_ ?_
    · intro D oC i m₁ m₂ ys nn h gn tk own E' hi hJ' hyl hset hoC hCD hDn hoff F' N'
      exact turn H2.objs.size D oC i m₁ m₂ ys nn h gn tk own E' hi hJ' hyl hset hoC hCD hDn hoff F' N'
    · intro ys nn m₁ h gn tk hJ' hyl F' hns' N' hbr
      refine ⟨m₁, hns', fun h'' hs'' => ?_⟩
      refine done ys nn _ h'' gn tk hJ' hyl (F'.change hs'' hCL hC₀) (fun p hp => ?_) hnlt hbr
      rcases List.mem_cons.mp hp with rfl | hp
      · exact ⟨hs''.extBut _ _ hDC (N' _ (.head _)).1, (N' _ (.head _)).2⟩
      · exact ⟨hs''.extBut _ _ (below _ (hnlt p hp)).1 (N' p (.tail _ hp)).1, (N p hp).2⟩
  exact codeAny_compStart_list (loop _ rfl) ((Dv H2.objs.size).self 0 wr _ _ _ (hI _ _ old) (loop _ rfl))
end
end Mine
end
section
theorem fresh_P5 : True := by
  w_top off
  trivial
open PySem PySem.W PyProof.Rows PySem.Calls PySem.Spec
namespace Mine
theorem TEnd.imp {h₀ : Heap} {L : Addr} {m : Str → Option Value} {keep : List (Addr × Obj)} {P P' : Prop} {s s₂ : Shared} (x : TEnd h₀ L m keep P s s₂) (h : P → P') : TEnd h₀ L m keep P' s s₂ := by
  obtain ⟨h', tk', all, e, F, N, k, p⟩ := x
  exact ⟨h', tk', all, e, F, N, k, h p⟩
theorem take_filter {α : Type} (l : List α) (p : α → Bool) (i : Nat) (a : α) (h : l[i]? = some a) : (l.take (i + 1)).filter p = (l.take i).filter p ++ (if p a = true then [a] else []) := by
  obtain ⟨hi, rfl⟩ := List.getElem?_eq_some_iff.mp h
  rw [List.take_add_one, h, Option.toList_some, List.filter_append]
  by_cases e : p l[i] = true
  · simp [e]
  · simp [e]
theorem genComp {w : World} {mean : ExcName → Option Value} {mg mb : Str → Option Value} {loose : List Str} {A : Around} {h₀ : Heap} {L : Addr} {m : Str → Option Value} {s : Shared} {Q E : Value → Shared → Prop} {env : Env} {elt test : Expr} {scope : Scope} {cl : List (Str × Addr)} {a b : Str} {p1 p2 p3 : Pos} {k : Nat} {news : List (Addr × Obj)}
    (F : Fr h₀ L s.heap m) (N : News h₀ L s.heap news) (X : (hd.heap_39 w.params).In h₀) (T : Top topProg loose mean mg mb h₀) (hh : A.handled = none) (x : Str) (t : Tok) (hx : x.cps.all (· < 128) = true) (hxl : x.cps.size ≤ 900) (hroom : A.depth < recursionLimit)
    (ha : ∀ C, (compEnvC scope cl C env).kindOf a = some .local) (hb : ∀ C, (compEnvC scope cl C env).kindOf b = some .local) (hp : ∀ C, ((compEnvC scope cl C env).scope.kind == .class || ((compEnvC scope cl C env).scope.kind == .module && (compEnvC scope cl C env).locals != (compEnvC scope cl C env).globals)) = false) (hab : a ≠ b) (tst : Nat × Str → Bool)
    (turn : ∀ C D oC (i : Nat) m₂ ys nn h gn tk own (E' : Value → Shared → Prop) (p : Nat) (u : Str) (t1 t2 : Tok), (escI x.cps.toList 0 false 0)[i]? = some (p, u) → LCg.NsObj oC m₂ → m₂ a = some (.int (p : Nat) t1) → m₂ b = some (.str u t2) → C ≠ D → (∀ q ∈ news, q.1 ≠ D) → OwnOff own (C :: D :: news.map (·.1)) → Fr h₀ L h m → News h₀ L h ((C, oC) :: (D, listOf (List.toArray ys) nn) :: (news ++ own)) →
      wpAny (model PySem.Challenge.rw_pg0087_01.row.prog w) A (isTrue test (compEnvC scope cl C env) (eval test (compEnvC scope cl C env))) (fun ok s₃ => if ok = true then wpAny (model PySem.Challenge.rw_pg0087_01.row.prog w) A (eval elt (compEnvC scope cl C env)) (fun y s₄ => TEnd h₀ L m ((C, oC) :: (D, listOf (List.toArray ys) nn) :: (news ++ own)) (tst (p, u) = true ∧ ∃ t', y = .str u t') { s with heap := h, gens := gn, toks := tk } s₄) E' s₃
        else TEnd h₀ L m ((C, oC) :: (D, listOf (List.toArray ys) nn) :: (news ++ own)) (tst (p, u) = false) { s with heap := h, gens := gn, toks := tk } s₃) E' { s with heap := h, gens := gn, toks := tk })
    (done : ∀ ys nn D h gn tk, StrsAre ys (((escI x.cps.toList 0 false 0).filter tst).map (·.2)) → Fr h₀ L h m → News h₀ L h ((D, listOf (List.toArray ys) nn) :: news) → (∀ p ∈ news, p.1 < D) → (AllBare s.gens → AllBare gn) → Q (.ref D) { s with heap := h, gens := gn, toks := tk }) :
    wpAny (model PySem.Challenge.rw_pg0087_01.row.prog w) A (call (.ref 21) [.str x t]) (fun xv s₁ => wpAny (model PySem.Challenge.rw_pg0087_01.row.prog w) A (pyIter xv) (CompSrcD PySem.Challenge.rw_pg0087_01.row.prog w A h₀ L m env elt (.Tuple [.Name a p1, .Name b p2] k p3) [test] scope cl Q) E s₁) E s := by
  refine gen_call F X T x t hx hroom fun gs h13 tk13 hgn hkp hsz hob hN => ?_
  refine wpAny_pyIter_gen hgn ?_
  obtain ⟨ob, hob⟩ := hob
  have hbg : gs.bare = true := by
    obtain ⟨c, e, _⟩ := hN A hh
    rw [e]; rfl
  have fr := fresh_at F N
  have hilen : (escI x.cps.toList 0 false 0).length ≤ 1000 := by have := escI_len x.cps.toList 0 false 0; simp at this; omega
  refine ⟨⟨(escI x.cps.toList 0 false 0).length, GSt PySem.Challenge.rw_pg0087_01.row.prog w A s.heap.objs.size h₀ (s.heap.objs.size + 1) s.gens.size (escI x.cps.toList 0 false 0), _, [s.heap.objs.size + 1, s.heap.objs.size], news, fun i ys => StrsAre ys ((((escI x.cps.toList 0 false 0).take i).filter tst).map (·.2)), hilen,
    fun C => drvG (a := a) (b := b) (p1 := p1) (p2 := p2) (p3 := p3) (k := k) hh T.nolimit hroom (ha C) (hb C) (hp C), fun h' tk hold => ⟨[s.heap.objs.size], rfl, ?_, ?_, .inl ⟨rfl, gs, h13, by simp, hN _ hh, ob, hob, hold _ _ hob⟩⟩, F.keeps hkp, N.grown hkp, ?_, ?_, .nil, ?_, ?_, ?_⟩⟩
  · rw [List.mem_singleton]; exact Nat.succ_ne_self _
  · obtain ⟨o, nm, qn, ho, r⟩ := hgn
    exact ⟨o, nm, qn, hold _ _ ho, r⟩
  · intro c hc
    rcases List.mem_cons.mp hc with rfl | hc
    · exact fr _ (Nat.le_succ _)
    · rw [List.mem_singleton.mp hc]; exact fr _ (Nat.le_refl _)
  · intro c hc
    show c < h13.objs.size
    rw [hsz]
    rcases List.mem_cons.mp hc with rfl | hc
    · exact Nat.lt_succ_self _
    · rw [List.mem_singleton.mp hc]; exact Nat.lt_succ_of_lt (Nat.lt_succ_self _)
  · rintro D i wr s' h' gn' tk' o ⟨wr0, rfl, hga, hg, G⟩ hk F' N' rfl
    obtain ⟨o', nm, qn, ho, r⟩ := hg
    exact ⟨wr0, rfl, hga, ⟨o', nm, qn, hk _ (.head _) _ ho, r⟩, G.frame rfl fun b hb o e => hk b (.tail _ hb) o e⟩
  · intro C D oC i m₁ m₂ ys nn h gn' tk own E' hi hJ' hyl hset hoC hCD hDn hoff F' N'
    obtain ⟨v1, v2, ⟨p, u, t1, t2, hit, rfl, rfl⟩, hm₂⟩ := hset
    have hm1 : m₂ b = some (.str u t2) := by rw [hm₂]; simp
    have hm2 : m₂ a = some (.int (p : Nat) t1) := by rw [hm₂]; simp [hab]
    refine wpAny_tests_one ?_
    refine wpAny_mono (turn C D oC i m₂ ys nn h gn' tk own E' p u t1 t2 hit hoC hm2 hm1 hCD hDn hoff F' N') (fun ok s₃ z => ?_) fun _ _ e => e
    have tf := take_filter _ tst i _ hit
    cases ok with
    | true =>
      simp only [if_true] at z ⊢
      refine wpAny_mono z (fun y s₄ z => z.imp fun ⟨h1, t', h2⟩ => ?_) fun _ _ e => e
      subst h2
      rw [tf, if_pos h1, List.map_append]
      exact strs_snoc hJ' _ _
    | false =>
      simp only [Bool.false_eq_true, if_false] at z ⊢
      refine z.imp fun h1 => ?_
      rw [tf, if_neg (by rw [h1]; decide), List.append_nil]
      exact hJ'
  · intro ys nn D h gn' tk hJ' hyl F' N' hDlt hb'
    rw [List.take_length] at hJ'
    exact done ys nn D h gn' tk hJ' F' N' hDlt fun z => hb' (AllBare.push z hbg)
end Mine
end
section
open PySem PySem.W PyProof.Rows PySem.Calls PySem.Spec
namespace Mine
/-- a turn's end, the loop's name a cell at c -/
def LEndC (base : Heap) (L c : Addr) (J : (Str → Option Value) → List (Addr × Obj) → Prop) (own : List (Addr × Obj)) (s₁ s₂ : Shared) : Prop :=
  ∃ h' gn tk m' news' nx o v, s₂ = { s₁ with heap := h', gens := gn, toks := tk } ∧ (AllBare s₁.gens → AllBare gn) ∧ Fr base L h' m' ∧ News base L h' news' ∧ (c, o) ∈ news' ∧ o.data = .cell v ∧ (∀ p ∈ nx, p ∈ news') ∧ (∀ p ∈ nx, p.1 ≠ c) ∧ (∀ p ∈ own, p ∈ news') ∧ OwnOff own (nx.map (·.1)) ∧ J m' nx
def LPostC (base : Heap) (L c : Addr) (J : (Str → Option Value) → List (Addr × Obj) → Prop) (own : List (Addr × Obj)) (s₁ : Shared) (Q : Flow → Shared → Prop) (f : Flow) (s₂ : Shared) : Prop :=
  match f with
  | .ret v => Q (.ret v) s₂
  | .brk => Q .next s₂
  | _ => LEndC base L c J own s₁ s₂
def ForInvC (base : Heap) (L I c : Addr) (St : Nat → Heap → Prop) (J : Nat → (Str → Option Value) → List (Addr × Obj) → Prop) (s : Shared) (n : Nat) (k : Nat) (s' : Shared) : Prop :=
  ∃ h gn tk i m' news' o v, k = n + 1 - i ∧ i ≤ n ∧ s' = { s with heap := h, gens := gn, toks := tk } ∧ (AllBare s.gens → AllBare gn) ∧ St i h ∧ Fr base L h m' ∧ News base L h ((c, o) :: news') ∧ o.data = .cell v ∧ (∀ p ∈ news', p.1 ≠ c) ∧ (∀ p ∈ news', p.1 ≠ I) ∧ J i m' news'
section
variable {prog : Program} {w : World} {A : Around} {s : Shared} {env : Env} {base : Heap} {I c : Addr} {fp : List Addr} {n : Nat} {P : Nat → Value → Prop} {St : Nat → Heap → Prop}
theorem forCell {x : Str} {px : Pos} {body : List Stmt} {R : Result → Shared → Prop} {o₀ : Obj} {v₀ : Option Value} {m₀ : Str → Option Value} {news : List (Addr × Obj)} (W : Walks prog w A I fp [I] n P St) (hIo : ∀ i h, St i h → ∃ o, h.get? I = some o) (hcf : c ∉ fp) (hLf : env.locals ∉ fp)
    (hx : env.kindOf x = some .cell) (hk : env.scope.kind = .function) (hc : env.cells.lookup x = some c)
    (J : Nat → (Str → Option Value) → List (Addr × Obj) → Prop)
    (stay : ∀ i h h' m' nx o, St i h → (∀ o, h.get? I = some o → h'.get? I = some o) → Fr base env.locals h' m' → News base env.locals h' ((c, o) :: nx) → J i m' nx → St i h')
    (hst : St 0 s.heap) (F : Fr base env.locals s.heap m₀) (N : News base env.locals s.heap ((c, o₀) :: news)) (hd₀ : o₀.data = .cell v₀) (hcn : ∀ p ∈ news, p.1 ≠ c) (hI0 : base.get? I = none) (hIL : I ≠ env.locals) (hIn : ∀ p ∈ news, p.1 ≠ I) (hJ : J 0 m₀ news)
    (turn : ∀ i v o m₁ news₁ h gn tk own (E' : Value → Shared → Prop), i < n → P i v → o.data = .cell (some v) → J i m₁ news₁ → (∀ p ∈ news₁, p.1 ≠ c) → OwnOff own (c :: news₁.map (·.1)) → Fr base env.locals h m₁ → News base env.locals h ((c, o) :: (news₁ ++ own)) →
      wpAny (model prog w) A (execs body env) (LPostC base env.locals c (J (i + 1)) own { s with heap := h, gens := gn, toks := tk } (fun f s' => (AllBare s.gens → AllBare gn) → R (.ok f) s')) E' { s with heap := h, gens := gn, toks := tk })
    (done : ∀ o v m₁ news₁ h gn tk, o.data = .cell v → J n m₁ news₁ → (∀ p ∈ news₁, p.1 ≠ c) → Fr base env.locals h m₁ → News base env.locals h ((c, o) :: news₁) → (AllBare s.gens → AllBare gn) → R (.ok .next) { s with heap := h, gens := gn, toks := tk }) :
    codeAny (model prog w) A (.forLoop (.Name x px) (.ref I) body [] env) R s := by
  have hIf : I ∈ fp := W.sub I (List.mem_singleton.mpr rfl)
  have hcI : c ≠ I := fun e => hcf (e ▸ hIf)
  refine codeAny_forLoop_any (ForInvC base env.locals I c St J s n) ?_ (n + 1)
    ⟨s.heap, s.gens, s.toks, 0, m₀, news, o₀, v₀, rfl, Nat.zero_le _, rfl, id, hst, F, N, hd₀, hcn, hIn, hJ⟩
  rintro k s' ⟨h, gn, tk, i, m', news', o, v, rfl, hi, rfl, hbare, hst', F', N', hd', hcn', hIn', hJ'⟩
  have but : ∀ h' : Heap, (∀ b o, b ∉ [I] → h.get? b = some o → h'.get? b = some o) → Fr base env.locals h' m' ∧ News base env.locals h' ((c, o) :: news') := fun h' hk' =>
    ⟨LCg.fr_but F' hk' (Ne.symm hIL) hI0, LCg.news_but N' hk' fun p hp => by
      rcases List.mem_cons.mp hp with rfl | hp
      · exact hcI
      · exact hIn' p hp⟩
  by_cases hlt : i < n
  · refine W.item i _ _ _ hlt hst' fun u h₁ tk₁ hPu hst₁ hk₁ => ?_
    obtain ⟨F₁, N₁⟩ := but h₁ hk₁
    refine (show wpAny _ A (pure ()) _ _ _ from wpAny_pure ?_)
    refine wpAny_assign_Name (wpAny_storeName_cell hk hx hc ⟨o, (N₁ _ (.head _)).1, hd'⟩ fun h₂ hv₂ hs₂ => ?_)
    obtain ⟨o₂, ho₂, hd₂⟩ := hv₂
    have hcL : c ≠ env.locals := (N₁ _ (.head _)).2.1
    have hc0 : base.get? c = none := (N₁ _ (.head _)).2.2
    have hst₂ : St (i + 1) h₂ := W.frame _ _ _ hst₁ fun b hb o e => hs₂.extBut b o (fun q => hcf (q ▸ hb)) e
    obtain ⟨oI, hoI⟩ := hIo _ _ hst₂
    have F₂ : Fr base env.locals h₂ m' := F₁.change hs₂ hcL hc0
    have N₂ : News base env.locals h₂ ((c, o₂) :: (news' ++ [(I, oI)])) := fun p hp => by
      rcases List.mem_cons.mp hp with rfl | hp
      · exact ⟨ho₂, hcL, hc0⟩
      · rcases List.mem_append.mp hp with hp | hp
        · exact ⟨hs₂.extBut _ _ (hcn' p hp) (N₁ p (.tail _ hp)).1, (N₁ p (.tail _ hp)).2⟩
        · rw [List.mem_singleton.mp hp]; exact ⟨hoI, hIL, hI0⟩
    have hoff : OwnOff [(I, oI)] (c :: news'.map (·.1)) := fun q hq b hb e => by
      rw [List.mem_singleton.mp hq] at e
      rcases List.mem_cons.mp hb with rfl | hb
      · exact hcI e.symm
      · obtain ⟨p, hp, rfl⟩ := List.mem_map.mp hb
        exact hIn' p hp e.symm
    refine wpAny_mono (turn i u o₂ m' news' h₂ gn _ [(I, oI)] _ hlt hPu hd₂ hJ' hcn' hoff F₂ N₂) (fun f s₃ hf => ?_) fun _ _ e => e
    have fin : LEndC base env.locals c (J (i + 1)) [(I, oI)] { s with heap := h₂, gens := gn, toks := tk₁ } s₃ → ∃ m, m < n + 1 - i ∧ ForInvC base env.locals I c St J s n m s₃ := by
      rintro ⟨h₄, gn₄, tk₄, m₄, news₄, nx, o₄, v₄, rfl, hb₄, F₄, N₄, hc₄, hd₄, hn, hnc, ho, ha', hJ₄⟩
      have N₅ : News base env.locals h₄ ((c, o₄) :: nx) := fun q hq => by
        rcases List.mem_cons.mp hq with rfl | hq
        · exact N₄ _ hc₄
        · exact N₄ q (hn q hq)
      have st := stay (i + 1) h₂ h₄ m₄ nx o₄ hst₂ (fun o e => by rw [hoI] at e; cases e; exact (N₄ _ (ho _ (.head _))).1) F₄ N₅ hJ₄
      exact ⟨n + 1 - (i + 1), by omega, h₄, gn₄, tk₄, i + 1, m₄, nx, o₄, v₄, rfl, hlt, rfl, fun z => hb₄ (hbare z), st, F₄, N₅, hd₄, hnc, fun p hp e => ha' (I, oI) (.head _) p.1 (List.mem_map_of_mem hp) e.symm, hJ₄⟩
    cases f with
    | ret v => exact hf hbare
    | brk => exact hf hbare
    | next => exact fin hf
    | cont => exact fin hf
  · have hin : i = n := by omega
    subst hin
    refine W.done _ _ _ hst' fun h₁ tk₁ hk₁ => ?_
    obtain ⟨F₁, N₁⟩ := but h₁ hk₁
    exact wpAny_execs_nil (done o v m' news' h₁ gn tk₁ hd' hJ' hcn' F₁ N₁ hbare)
/-- a for loop over a range, its name a cell -/
theorem forRangeC {x : Str} {px : Pos} {body : List Stmt} {Q : Flow → Shared → Prop} {E : Value → Shared → Prop} {r c : Addr} {a b : Int} {t u v : Tok} {n : Nat} {o₀ : Obj} {v₀ : Option Value} {m₀ : Str → Option Value} {news : List (Addr × Obj)}
    (hh : A.handled = none) (hx : env.kindOf x = some .cell) (hk : env.scope.kind = .function) (hc : env.cells.lookup x = some c)
    (F : Fr base env.locals s.heap m₀) (N : News base env.locals s.heap ((c, o₀) :: news)) (hd₀ : o₀.data = .cell v₀) (hcn : ∀ p ∈ news, p.1 ≠ c) (hr : IsRange s.heap r a b 1 t u v) (hsm : Builtin.Range.small a b 1 = true) (hn : Builtin.Range.rangeSize a b 1 = ((n : Nat) : Int))
    (J : Nat → (Str → Option Value) → List (Addr × Obj) → Prop) (hJ : J 0 m₀ news)
    (turn : ∀ (i : Nat) tt o m₁ news₁ h gn tk own (E' : Value → Shared → Prop), i < n → o.data = .cell (some (.int (a + (i : Int)) tt)) → J i m₁ news₁ → (∀ p ∈ news₁, p.1 ≠ c) → OwnOff own (c :: news₁.map (·.1)) → Fr base env.locals h m₁ → News base env.locals h ((c, o) :: (news₁ ++ own)) →
      wpAny (model prog w) A (execs body env) (LPostC base env.locals c (J (i + 1)) own { s with heap := h, gens := gn, toks := tk } (fun f s' => (AllBare s.gens → AllBare gn) → Q f s')) E' { s with heap := h, gens := gn, toks := tk })
    (done : ∀ o v m₁ news₁ h gn tk, o.data = .cell v → J n m₁ news₁ → (∀ p ∈ news₁, p.1 ≠ c) → Fr base env.locals h m₁ → News base env.locals h ((c, o) :: news₁) → (AllBare s.gens → AllBare gn) → Q .next { s with heap := h, gens := gn, toks := tk }) :
    ForSrc prog w A (.Name x px) body env Q E (.ref r) s := by
  refine ⟨?_⟩
  refine wpAny_pyIter_range hr hsm ?_
  have hfr := fresh_at F N s.heap.objs.size (Nat.le_refl _)
  refine forCell (LCg.range_walks hh a n) (fun i h st => ⟨_, st⟩) (fun hm => hfr.2.2 (by rw [List.mem_singleton.mp hm]; exact .head _)) (fun hm => hfr.2.1 (List.mem_singleton.mp hm).symm) hx hk hc J ?_ ?_ (F.keeps fun _ _ e => Heap.get?_push_of_some _ e) (N.grown fun _ _ e => Heap.get?_push_of_some _ e) hd₀ hcn hfr.1 hfr.2.1 (fun p hp e => hfr.2.2 (.tail _ (e ▸ List.mem_map_of_mem hp))) hJ ?_ done
  · intro i h h' m' nx o st hk' _ _ _
    exact hk' _ st
  · show IsRangeIter _ _ _ _ _
    rw [hn]; simpa using Heap.get?_push_size _ rfl
  · intro i v o m₁ news₁ h gn tk own E' hi hP hd hJ₁ hcn₁ hoff F₁ N₁
    obtain ⟨tt, rfl⟩ := hP
    exact turn i tt o m₁ news₁ h gn tk own E' hi hd hJ₁ hcn₁ hoff F₁ N₁
/-- a for loop over a tuple of the ledger, its name a cell -/
theorem forTupC {x : Str} {px : Pos} {body : List Stmt} {Q : Flow → Shared → Prop} {E : Value → Shared → Prop} {T c : Addr} {its : Array Value} {o₀ oT : Obj} {v₀ : Option Value} {m₀ : Str → Option Value} {news : List (Addr × Obj)}
    (hh : A.handled = none) (hx : env.kindOf x = some .cell) (hk : env.scope.kind = .function) (hc : env.cells.lookup x = some c)
    (F : Fr base env.locals s.heap m₀) (N : News base env.locals s.heap ((c, o₀) :: news)) (hd₀ : o₀.data = .cell v₀) (hcn : ∀ p ∈ news, p.1 ≠ c)
    (hcl : oT.cls = .type "tuple") (hdt : ∃ k, oT.data = .seq its k)
    (J : Nat → (Str → Option Value) → List (Addr × Obj) → Prop) (hJ : J 0 m₀ news) (hat : ∀ i m' nx, J i m' nx → (T, oT) ∈ nx)
    (turn : ∀ (i : Nat) v o m₁ news₁ h gn tk own (E' : Value → Shared → Prop), its[i]? = some v → o.data = .cell (some v) → J i m₁ news₁ → (∀ p ∈ news₁, p.1 ≠ c) → OwnOff own (c :: news₁.map (·.1)) → Fr base env.locals h m₁ → News base env.locals h ((c, o) :: (news₁ ++ own)) →
      wpAny (model prog w) A (execs body env) (LPostC base env.locals c (J (i + 1)) own { s with heap := h, gens := gn, toks := tk } (fun f s' => (AllBare s.gens → AllBare gn) → Q f s')) E' { s with heap := h, gens := gn, toks := tk })
    (done : ∀ o v m₁ news₁ h gn tk, o.data = .cell v → J its.size m₁ news₁ → (∀ p ∈ news₁, p.1 ≠ c) → Fr base env.locals h m₁ → News base env.locals h ((c, o) :: news₁) → (AllBare s.gens → AllBare gn) → Q .next { s with heap := h, gens := gn, toks := tk }) :
    ForSrc prog w A (.Name x px) body env Q E (.ref T) s := by
  refine ⟨?_⟩
  obtain ⟨kt, hdt⟩ := hdt
  have hmT := hat _ _ _ hJ
  have tup : ∀ {h : Heap}, h.get? T = some oT → h.IsTuple T its := fun e => ⟨oT, e, hcl, _, hdt⟩
  have hT : s.heap.IsTuple T its := tup (N _ (.tail _ hmT)).1
  have hlt : T < s.heap.objs.size := Heap.lt_size (N _ (.tail _ hmT)).1
  refine wpAny_pyIter_tuple hT ?_
  have hfr := fresh_at F N s.heap.objs.size (Nat.le_refl _)
  have up : ∀ b o, s.heap.get? b = some o → (s.heap.push { cls := .type "tuple_iterator", data := .fields #[.ref T, .int 0 0] }).get? b = some o := fun b o e => Heap.get?_push_of_some _ e
  refine forCell (Walks.tuple hh s.heap.objs.size T (Nat.ne_of_lt hlt) its) (fun i h st => by obtain ⟨o, e, _⟩ := st.1; exact ⟨o, e⟩) (fun hm => ?_) (fun hm => ?_) hx hk hc J ?_ ⟨⟨_, Heap.get?_push_size _ rfl, rfl, rfl⟩, hT.push _⟩ (F.keeps up) (N.grown up) hd₀ hcn hfr.1 hfr.2.1 (fun p hp e => hfr.2.2 (.tail _ (e ▸ List.mem_map_of_mem hp))) hJ ?_ done
  · rcases List.mem_cons.mp hm with e | hm
    · exact hfr.2.2 (by rw [← e]; exact .head _)
    · exact hcn _ hmT (List.mem_singleton.mp hm).symm
  · rcases List.mem_cons.mp hm with e | hm
    · exact hfr.2.1 e.symm
    · exact (N _ (.tail _ hmT)).2.1 (List.mem_singleton.mp hm).symm
  · intro i h h' m' nx o st hk' F' N' hJ'
    refine ⟨?_, tup (N' _ (.tail _ (hat _ _ _ hJ'))).1⟩
    obtain ⟨o, e, r⟩ := st.1
    exact ⟨o, hk' _ e, r⟩
  · intro i v o m₁ news₁ h gn tk own E' hi hP hd hJ₁ hcn₁ hoff F₁ N₁
    exact turn i v o m₁ news₁ h gn tk own E' hP hd hJ₁ hcn₁ hoff F₁ N₁
end
end Mine
end
section
open PySem PySem.W PyProof.Rows PySem.Calls PySem.Spec
namespace Mine
def selS (us : List Str) (tst : Nat → Bool) (n : Nat) : List Str := ((List.range n).filter tst).map (us.getD · default)
theorem strs_at' {vs : List Value} {xs : List Str} (h : StrsAre vs xs) : ∀ i, i < xs.length → ∃ t, vs[i]? = some (.str (xs.getD i default) t) := by
  induction h with
  | nil => intro i hi; simp at hi
  | cons x t r ih =>
    intro i hi
    cases i with
    | zero => exact ⟨_, rfl⟩
    | succ i => simpa using ih i (by simpa using hi)
theorem zipComp {prog : Program} {w : World} {A : Around} {h₀ : Heap} {L : Addr} {m : Str → Option Value} {s : Shared} {Q E : Value → Shared → Prop} {env : Env} {elt test : Expr} {scope : Scope} {cl : List (Str × Addr)} {a b : Str} {p1 p2 p3 : Pos} {k : Nat} {news : List (Addr × Obj)} {l1 l2 : Addr} {xs ys : List Value} {k1 k2 : Nat} {us : List Str}
    (F : Fr h₀ L s.heap m) (N : News h₀ L s.heap news) (hh : A.handled = none) (hl1 : (l1, listOf xs.toArray k1) ∈ news) (hl2 : (l2, listOf ys.toArray k2) ∈ news) (hus : StrsAre xs us) (hys : ys.length = us.length) (hn : us.length ≤ 1000)
    (ha : ∀ C, (compEnvC scope cl C env).kindOf a = some .local) (hb : ∀ C, (compEnvC scope cl C env).kindOf b = some .local) (hp : ∀ C, ((compEnvC scope cl C env).scope.kind == .class || ((compEnvC scope cl C env).scope.kind == .module && (compEnvC scope cl C env).locals != (compEnvC scope cl C env).globals)) = false) (hab : a ≠ b) (tst : Nat → Bool)
    (turn : ∀ C D oC (i : Nat) m₂ zs nn h gn tk own (E' : Value → Shared → Prop) (v2 : Value) (t1 : Tok), i < us.length → ys[i]? = some v2 → LCg.NsObj oC m₂ → m₂ a = some (.str (us.getD i default) t1) → m₂ b = some v2 → C ≠ D → (∀ q ∈ news, q.1 ≠ D) → OwnOff own (C :: D :: news.map (·.1)) → Fr h₀ L h m → News h₀ L h ((C, oC) :: (D, listOf (List.toArray zs) nn) :: (news ++ own)) →
      wpAny (model prog w) A (isTrue test (compEnvC scope cl C env) (eval test (compEnvC scope cl C env))) (fun ok s₃ => if ok = true then wpAny (model prog w) A (eval elt (compEnvC scope cl C env)) (fun y s₄ => TEnd h₀ L m ((C, oC) :: (D, listOf (List.toArray zs) nn) :: (news ++ own)) (tst i = true ∧ ∃ t', y = .str (us.getD i default) t') { s with heap := h, gens := gn, toks := tk } s₄) E' s₃
        else TEnd h₀ L m ((C, oC) :: (D, listOf (List.toArray zs) nn) :: (news ++ own)) (tst i = false) { s with heap := h, gens := gn, toks := tk } s₃) E' { s with heap := h, gens := gn, toks := tk })
    (done : ∀ zs nn D h gn tk, StrsAre zs (selS us tst us.length) → Fr h₀ L h m → News h₀ L h ((D, listOf (List.toArray zs) nn) :: news) → (∀ p ∈ news, p.1 < D) → (AllBare s.gens → AllBare gn) → Q (.ref D) { s with heap := h, gens := gn, toks := tk }) :
    wpAny (model prog w) A (call (.type "zip") [.ref l1, .ref l2]) (fun xv s₁ => wpAny (model prog w) A (pyIter xv) (CompSrcD prog w A h₀ L m env elt (.Tuple [.Name a p1, .Name b p2] k p3) [test] scope cl Q) E s₁) E s := by
  refine zipCall F N hl1 hl2 fun z TI TO i1 i2 h' ZA Z F₁ N₁ hf => ?_
  refine wpAny_pyIter_zip Z.2.1 ?_
  have hxl : xs.length = us.length := hus.length
  have hmin : min xs.toArray.size ys.toArray.size = us.length := by simp [hxl, hys]
  refine ⟨⟨us.length, ZSt z TI TO i1 i2 l1 l2 xs.toArray ys.toArray, setP a b fun i v1 v2 => xs.toArray[i]? = some v1 ∧ ys.toArray[i]? = some v2, [z, TI, TO, i1, i2], news, fun i zs => StrsAre zs (selS us tst i), hn,
    fun C => ?_, fun h'' tk hold => ?_, F₁, N₁, hf, ?_, .nil, ?_, ?_, ?_⟩⟩
  · have Dv := drvZ (prog := prog) (w := w) (A := A) (base := h₀) (env := compEnvC scope cl C env) (xs := xs.toArray) (ys := ys.toArray) (p1 := p1) (p2 := p2) (p3 := p3) (k := k) hh ZA (ha C) (hb C) (hp C)
    rw [hmin] at Dv
    exact Dv.to0
  · exact Z.stay (fun c _ o e => hold c o e) (Heap.IsList.at Z.2.2.2.2.2.2.1 fun o e => hold _ o e) (Heap.IsList.at Z.2.2.2.2.2.2.2 fun o e => hold _ o e)
  · intro c hc
    obtain ⟨o, e⟩ := (drvZ (prog := prog) (w := w) (A := A) (base := h₀) (env := compEnvC scope cl 0 env) (xs := xs.toArray) (ys := ys.toArray) (p1 := p1) (p2 := p2) (p3 := p3) (k := k) hh ZA (ha 0) (hb 0) (hp 0)).objs 0 _ _ Z c hc
    exact Heap.lt_size e
  · intro D i wr s' h'' gn tk o hI hk F' N' e
    subst e
    exact ZSt.stay (s' := { s' with heap := h'', gens := s'.gens, toks := tk }) hI hk ⟨_, (N' _ (.tail _ hl1)).1, rfl, _, rfl⟩ ⟨_, (N' _ (.tail _ hl2)).1, rfl, _, rfl⟩
  · intro C D oC i m₁ m₂ zs nn h gn tk own E' hi hJ' hyl hset hoC hCD hDn hoff F' N'
    obtain ⟨v1, v2, ⟨h1, h2⟩, hm₂⟩ := hset
    obtain ⟨t1, rfl⟩ : ∃ t1, v1 = .str (us.getD i default) t1 := by
      obtain ⟨t, e⟩ := strs_at' hus i hi
      rw [List.getElem?_toArray, e] at h1
      exact ⟨t, (Option.some.inj h1).symm⟩
    have hm1 : m₂ b = some v2 := by rw [hm₂]; simp
    have hm2 : m₂ a = some (.str (us.getD i default) t1) := by rw [hm₂]; simp [hab]
    refine wpAny_tests_one ?_
    have sf : selS us tst (i + 1) = selS us tst i ++ (if tst i = true then [us.getD i default] else []) := by
      unfold selS
      rw [List.range_succ, List.filter_append, List.map_append]
      by_cases e : tst i = true <;> simp [e]
    refine wpAny_mono (turn C D oC i m₂ zs nn h gn tk own E' v2 t1 hi (by simpa using h2) hoC hm2 hm1 hCD hDn hoff F' N') (fun ok s₃ q => ?_) fun _ _ e => e
    cases ok with
    | true =>
      simp only [if_true] at q ⊢
      refine wpAny_mono q (fun y s₄ q => q.imp fun ⟨h1, t', h2⟩ => ?_) fun _ _ e => e
      subst h2
      rw [sf, if_pos h1]
      exact strs_snoc hJ' _ _
    | false =>
      simp only [Bool.false_eq_true, if_false] at q ⊢
      refine q.imp fun h1 => ?_
      rw [sf, if_neg (by rw [h1]; decide), List.append_nil]
      exact hJ'
  · intro zs nn D h gn tk hJ' hyl F' N' hDlt hb'
    exact done zs nn D h gn tk hJ' F' N' hDlt hb'
end Mine
end
section
theorem fresh_N10 : True := by
  w_top off
  trivial
open PySem.W.X (SegX)
open PySem PySem.W PyProof.Rows PySem.Calls PySem.Spec

open Mine

section
local macro_rules | `(tactic| walk_at "exec For Tuple Call cons nil") => `(tactic| refine Mine.Halt.mk ?_)
local macro_rules | `(tactic| walk_at "eval IfExp") => `(tactic| refine Mine.Halt.mk ?_)
local macro_rules | `(tactic| walk_at "call ref cons nil") => `(tactic| refine Mine.Halt.mk ?_)
local macro_rules | `(tactic| walk_at "call ref") => `(tactic| refine Mine.Halt.mk ?_)
local macro_rules | `(tactic| walk_at "call type:zip") => `(tactic| refine Mine.Halt.mk ?_)
local macro_rules | `(tactic| walk_at "newList") => `(tactic| refine Mine.Halt.mk ?_)
local macro_rules | `(tactic| walk_at "eval ListComp") => `(tactic| refine Mine.Halt.mk ?_)
namespace Mine
def quoS : Str := Str.ofString "\""
def runsGo : List (Str × Int) → List Str → Str → Int → List Str × Str × Int
  | [], init, last, b => (init, last, b)
  | (u, d) :: r, init, last, b => if d = b then runsGo r init (last ++ u) d else runsGo r (init ++ [last]) (Str.empty ++ u) d
def textS (units : List Str) (sides : List Int) (wished : Int) : Str := let r := runsGo (units.zip sides) [] Str.empty wished; Txt.join quoS (r.1 ++ [r.2.1])
def lastSide (units : List Str) (sides : List Int) (wished : Int) : Int := (runsGo (units.zip sides) [] Str.empty wished).2.2
def lastRun (units : List Str) (sides : List Int) (wished : Int) : Str := (runsGo (units.zip sides) [] Str.empty wished).2.1
def leftS (units : List Str) (sides : List Int) (wished : Int) : Str := stripS (if lastSide units sides wished = wished then textS units sides wished else textS units sides wished ++ quoS)
def badS (units : List Str) (sides : List Int) (wished : Int) : Prop := lastSide units sides wished ≠ wished ∧ stripS (textS units sides wished) ≠ leftS units sides wished ++ quoS ++ lastRun units sides wished
def handL (x : Str) : List Str := ((escI x.cps.toList 0 false 0).filter fun q => Txt.item x (q.1 : Nat) == lastS q.2).map (·.2)
theorem News.drop1 {g : Heap} {L : Addr} {h : Heap} {x : Addr × Obj} {r : List (Addr × Obj)} (N : News g L h (x :: r)) : News g L h r := fun q hq => N q (.tail _ hq)
theorem empty_app (x : Str) : Str.empty ++ x = x := by
  show Str.mk (#[] ++ x.cps) = x
  simp
theorem app_len (x y : Str) : (x ++ y).length = x.length + y.length := by
  show (x.cps ++ y.cps).size = _
  simp [Str.length]
theorem inc_mem {hi : Nat} : ∀ {lo : Nat} {l : List (Nat × Str)}, Inc hi lo l → ∀ q ∈ l, q.1 < hi
  | _, [], _, _, h => nomatch h
  | _, (p, u) :: r, ⟨_, h2, h3⟩, q, h => by
    rcases List.mem_cons.mp h with rfl | h
    · exact h2
    · exact inc_mem h3 q h
theorem strs_unsnoc : ∀ {xs : List Str} {vs : List Value} {y : Str}, StrsAre vs (xs ++ [y]) → ∃ vs0 t, vs = vs0 ++ [Value.str y t] ∧ StrsAre vs0 xs
  | [], _, y, h => by
    cases h with
    | cons _ t r => cases r; exact ⟨[], t, rfl, .nil⟩
  | x :: xs, _, y, h => by
    cases h with
    | cons _ t r => obtain ⟨vs0, t', rfl, h'⟩ := strs_unsnoc r; exact ⟨.str x t :: vs0, t', rfl, .cons x t h'⟩
section
variable {prog : Program} {w : World} {A : Around} {E : Value → Shared → Prop} {s : Shared} {h₀ : Heap} {L D : Addr} {m : Str → Option Value} {news news' : List (Addr × Obj)} {vs : List Value} {n k : Nat} {t : Tok} {v v0 : Value}
theorem getLast {Q : Value → Shared → Prop} (N : News h₀ L s.heap news) (hm : (D, listOf (List.toArray (vs ++ [v])) n) ∈ news) (h : Q v s) : wpAny (model prog w) A (getItem (.ref D) (.int (-1) t)) Q E s := by
  have hl := N.isList hm
  refine wpAny_getItem_list_neg hl (by decide) (by simp; omega) (by decide) ?_ h
  have e : (-1 + ((vs ++ [v]).toArray.size : Int)).toNat = vs.length := by simp; omega
  rw [e]
  simp
theorem lastItem {value slice : Expr} {Q : Value → Shared → Prop} (N : News h₀ L s.heap news) (hm : (D, listOf (List.toArray (vs ++ [v])) n) ∈ news) (h : Q v s)
    (hs : subscripted slice false (.ref D) (.int (-1) t) = operate [.ref D, .int (-1) t] (getItem (.ref D) (.int (-1) t)) := by with_unfolding_all rfl) (hg : ∀ r, letTemporaryGo value (.ref D) r = pure () := by intro _; with_unfolding_all rfl) :
    wpAny (model prog w) A (subscriptTail value slice (.ref D) (.int (-1) t)) Q E s :=
  subscriptTail_builtin (N.isList hm).typeIs slot_list_getitem.lookup (getLast N hm h) hs hg
theorem setLastV {Q : Unit → Shared → Prop} (F : Fr h₀ L s.heap m) (Nw : News h₀ L s.heap news) (U : Upd D (listOf (List.toArray (vs ++ [v0])) n) (listOf (List.toArray (vs ++ [v])) n) news news')
    (h : ∀ h', Fr h₀ L h' m → News h₀ L h' news' → Q () { s with heap := h' }) : wpAny (model prog w) A (setItem (.ref D) (.int (-1) t) v) Q E s := by
  obtain ⟨pre, post, rfl, rfl, a, b⟩ := U.split
  have z := Nw (D, listOf (List.toArray (vs ++ [v0])) n) (List.mem_append.mpr (.inr (.head _)))
  have e : (-1 + ((vs ++ [v0]).toArray.size : Int)).toNat = vs.length := by simp; omega
  refine ki_setBack z.1 (by decide) (by simp; omega) (by decide) ?_
  rw [e]
  refine h _ (F.change (Heap.SameBut.update ..) z.2.1 z.2.2) (ki_turn _ Nw a b ?_ ?_)
  · apply Array.toList_inj.mp
    simp
  · rw [if_pos (by simp)]
end
def EvP (base : Heap) (L : Addr) (M : Str → Option Value) (news : List (Addr × Obj)) (x : Str) (s : Shared) (v : Value) (s' : Shared) : Prop := ∃ t h' tk, v = .str x t ∧ s' = { s with heap := h', toks := tk } ∧ Fr base L h' M ∧ News base L h' news
theorem Fr.ex {g h : Heap} {L : Addr} {m : Str → Option Value} (F : Fr g L h m) {P : (Str → Option Value) → Prop} (hP : P m) : ∃ mm, Fr g L h mm ∧ P mm := ⟨m, F, hP⟩
theorem ascii_app {x y : Str} (hx : x.cps.all (· < 128) = true) (hy : y.cps.all (· < 128) = true) : (x ++ y).cps.all (· < 128) = true := by
  show (x.cps ++ y.cps).all (· < 128) = true
  rw [Array.all_append, hx, hy]; rfl
structure HJ (ua sa : Addr) (t0 : Tok) (wished : Int) (units : List Str) (sides : List Int) (ra : Addr) (rest : List (Addr × Obj)) (i : Nat) (m : Str → Option Value) (nx : List (Addr × Obj)) : Prop where
  out : ∃ vs init last n b t1, nx = (ra, listOf (List.toArray vs) n) :: rest ∧ StrsAre vs (init ++ [last]) ∧ init.length ≤ i ∧ (∀ y ∈ init ++ [last], y.length ≤ 2 * i) ∧ runsGo ((units.zip sides).drop i) init last b = runsGo (units.zip sides) [] Str.empty wished ∧
    m (Str.ofString "units") = some (.ref ua) ∧ m (Str.ofString "sides") = some (.ref sa) ∧ m (Str.ofString "wished") = some (.int wished t0) ∧ m (Str.ofString "runs") = some (.ref ra) ∧ m (Str.ofString "before") = some (.int b t1)
theorem hj_end {base : Heap} {L : Addr} {h' : Heap} {tk' : Nat} {s₁ : Shared} {m' : Str → Option Value} {ua sa ra : Addr} {t0 t t1 : Tok} {wished b : Int} {units : List Str} {sides : List Int} {x1 : Addr × Obj} {rest own : List (Addr × Obj)} {vs : List Value} {init : List Str} {y : Str} {n i : Nat} (F : Fr base L h' m')
    (N : News base L h' ((ra, listOf (List.toArray (vs ++ [Value.str y t])) n) :: x1 :: (rest ++ own))) (hvs : StrsAre vs init) (hil : init.length ≤ i + 1) (hyl : ∀ z ∈ init ++ [y], z.length ≤ 2 * (i + 1)) (hgo : runsGo ((units.zip sides).drop (i + 1)) init y b = runsGo (units.zip sides) [] Str.empty wished) (hoff : OwnOff own (ra :: x1.1 :: rest.map (·.1)))
    (e1 : m' (Str.ofString "units") = some (.ref ua)) (e2 : m' (Str.ofString "sides") = some (.ref sa)) (e3 : m' (Str.ofString "wished") = some (.int wished t0)) (e4 : m' (Str.ofString "runs") = some (.ref ra)) (e5 : m' (Str.ofString "before") = some (.int b t1)) :
    LEnd base L (HJ ua sa t0 wished units sides ra (x1 :: rest) (i + 1)) own s₁ { s₁ with heap := h', toks := tk' } :=
  ⟨h', s₁.gens, tk', m', _, (ra, listOf (List.toArray (vs ++ [Value.str y t])) n) :: x1 :: rest, rfl, id, F, N, fun p hp => List.mem_append_left own hp, fun p hp => .tail _ (.tail _ (List.mem_append_right _ hp)), hoff,
    _, init, y, _, b, t1, rfl, strs_snoc hvs _ _, hil, hyl, hgo, e1, e2, e3, e4, e5⟩
end Mine
set_option maxRecDepth 100000 in
set_option maxHeartbeats 8000000 in
theorem hand_c {w : World} {mean : ExcName → Option Value} {mg mb : Str → Option Value} {loose : List Str}
   {dp un : Nat} {gd : Option (List Code)} {cn : Str} {cs : Scope} {a : Addr} {ccd : Value} {cl : List (Str × Addr)} {outer : List Env} {A₀ : Around} {base h₀ : Heap} {L : Addr} {m : Str → Option Value} {rest : List (Addr × Obj)} {s : Shared} {Q E : Value → Shared → Prop}
   (B : Below A₀ base outer h₀) (F : Fr h₀ L s.heap m) (X : (hd.heap_39 w.params).In h₀) (N : News h₀ L s.heap rest) (T : Top topProg loose mean mg mb h₀) (hk : cs.kind = .function)
   (ua : Addr) (uvs : List Value) (units : List Str) (un' : Nat) (hst : StrsAre uvs units) (hmem : (ua, listOf uvs.toArray un') ∈ rest) (sa : Addr) (svs : List Value) (sides : List Int) (sn : Nat) (hsi : IntsAre svs sides) (hmem2 : (sa, listOf svs.toArray sn) ∈ rest) (hlen : units.length ≤ 5) (hsl : sides.length = units.length)
   (hu2 : ∀ u ∈ units, u.length ≤ 2) (wished : Int) (t0 : Tok) (htx : (textS units sides wished).cps.all (· < 128) = true) (htl : (textS units sides wished).cps.size ≤ 40) (hlx : (leftS units sides wished).cps.all (· < 128) = true) (hll : (leftS units sides wished).cps.size ≤ 60) (hdp : dp + 6 < recursionLimit) (hun : un + 200 < cLine)
   (hbad : badS units sides wished → ∀ h' gn tk', (AllBare s.gens → AllBare gn) → Fr h₀ L h' m → News h₀ L h' rest → Q .none { s with heap := h', gens := gn, toks := tk' })
   (hret : ¬ badS units sides wished → ∀ h' gn tk' D ys k, StrsAre ys (handL (leftS units sides wished)) → (AllBare s.gens → AllBare gn) → Fr h₀ L h' m → News h₀ L h' ((D, listOf (List.toArray ys) k) :: rest) → (∀ q ∈ rest, q.1 < D) → Q (.ref D) { s with heap := h', gens := gn, toks := tk' }) :
   wpAny (model PySem.Challenge.rw_pg0087_01.row.prog w) (ktrTop dp un gd cn cs L a ccd cl outer) (call (.ref 58) [.ref ua, .ref sa, .int wished t0]) Q E s := by
  revert X
  k_fill
  intro X
  refine wpAny_call ?_
  k_dflt (first | (refine' code_def ?k1 ?k2 ?k3 ?k4 ?k5 ?kA ?kF ?kK ?k6 ?k7 ?k8 ?k9 ?kB ?_ ?c2 ?c3 ?c4 ?c5; (case kA => exact rfl); (case kF => exact rfl); (case kK => assumption); (case k1 => k_asm); (case k2 => k_asm); (case k3 => k_asm); (case k4 => k_asm); (case k5 => k_asm); (case k6 => k_is); (case k7 => k_is); (case k8 => ktr_room); (case k9 => first | exact BindsTo.of_eq rfl | exact binds_K (by k_in) rfl (by k_is) rfl rfl rfl | (refine' kp_binds ?kx ?ke; (case kx => k_in); (case ke => exact fun _ => rfl))); (case c5 => decide); (case kB => exact locs rfl); (case c2 => exact rfl); (case c3 => exact rfl); (case c4 => exact rfl); k_whole) | (refine' code_defC ?k1 ?k2 ?k3 ?k4 ?k5 ?kA ?kF ?kK ?k6 ?k7 ?k8 ?k9 ?kB ?kD ?_ ?c2 ?c3 ?c4; (case kA => exact rfl); (case kF => exact rfl); (case kK => assumption); (case k1 => k_asm); (case k2 => k_asm); (case k3 => k_asm); (case k4 => k_asm); (case k5 => k_asm); (case k6 => k_is); (case k7 => k_is); (case k8 => ktr_room); (case k9 => first | exact BindsTo.of_eq rfl | exact binds_K (by k_in) rfl (by k_is) rfl rfl rfl | (refine' kp_binds ?kx ?ke; (case kx => k_in); (case ke => exact fun _ => rfl))); (case kB => exact rfl); (case kD => decide +kernel); (case c2 => exact rfl); (case c3 => exact rfl); (case c4 => exact rfl); k_whole))
  intro g1 L1 h1 tk1 cells1 FG1 F1 N1 Y1 B1 X1 T1 hlt1
  obtain ⟨o1, hE1, d1⟩ := CellsAre.one Y1; subst hE1; clear Y1
  (try simp only [List.cons_append, List.nil_append] at N1); (try dsimp only); (try k_lift B1); (try k_fold)
  have hul : uvs.length = units.length := hst.length
  have hsvl : svs.length = sides.length := hsi.length
  have hsiK : Unit → IntsAre svs sides := fun _ => hsi
  replace d1 : o1.data = .cell none := d1
  have hsuK : Unit → StrsAre uvs units := fun _ => hst
  replace F1 : Fr g1 L1 h1 (fun y => if y = Str.ofString "wished" then some (.int wished t0) else if y = Str.ofString "sides" then some (.ref sa) else if y = Str.ofString "units" then some (.ref ua) else none) := F1
  k_steps
  refine Halt.go (newList_K F1 N1 fun ra h2 F2 N2 hlt => ?_)
  clear F1 N1
  k_steps
  refine Halt.go (forSrc ?_)
  k_steps
  rename Fr g1 L1 _ _ => F3
  rename News g1 L1 _ _ => N3
  replace N3 := News.drop1 N3
  refine Halt.go (zipCall F3 N3 (.tail _ (.tail _ hmem)) (.tail _ (.tail _ hmem2)) fun z TI TO i1 i2 h4 ZA Z F4 N4 hf => ?_)
  refine forZip (base := g1) rfl ZA rfl rfl rfl F4 N4 Z hf units.length hul (by omega) (HJ ua sa t0 wished units sides ra ((L1 + 1, o1) :: rest)) ⟨_, [], Str.empty, _, wished, t0, rfl, .cons _ _ .nil, Nat.le_refl _, (fun y hy => by rw [List.mem_singleton.mp hy]; exact Nat.le_refl 0), rfl, rfl, rfl, rfl, rfl, rfl⟩ ?_ ?_ ?_
  · rintro i m' nx ⟨_, _, _, _, _, _, rfl, _⟩
    exact ⟨⟨_, .tail _ (.tail _ hmem)⟩, _, .tail _ (.tail _ hmem2)⟩
  · intro i v1 v2 m₁ news₁ h gn tk own E' hi hv1 hv2 hJ hoff F5 N5
    obtain ⟨vs, init, last, n, b, t1, rfl, hvs, hil, hyl, hgo, e1, e2, e3, e4, e5⟩ := hJ
    obtain ⟨tv, hv1'⟩ := strs_at (hsuK ()) i hi
    rw [hv1] at hv1'
    cases hv1'
    obtain ⟨tw, hv2'⟩ := ints_at (hsiK ()) i (by omega)
    rw [hv2] at hv2'
    cases hv2'
    have F6 := Fr.put F5 [(Str.ofString "unit", _), (Str.ofString "side", _), (Str.ofString "units", _), (Str.ofString "sides", _), (Str.ofString "wished", _), (Str.ofString "runs", _), (Str.ofString "before", _)] ⟨rfl, rfl, e1, e2, e3, e4, e5, trivial⟩
    simp only [putM] at F6
    change Fr g1 L1 h _ at F6
    change News g1 L1 h _ at N5
    simp only [List.cons_append] at N5
    clear F5 F3 N3 F4 N4
    have hul2 : (units.getD i default).length ≤ 2 := hu2 _ (by simp [List.getD, hi])
    have hz : (units.zip sides).drop i = (units.getD i default, sides.getD i 0) :: (units.zip sides).drop (i + 1) := by
      have hi2 : i < (units.zip sides).length := by simp; omega
      rw [List.drop_eq_getElem_cons hi2]
      simp [List.getD, hi, show i < sides.length by omega]
    rw [hz] at hgo
    have hoffr : ∀ q ∈ rest ++ own, q.1 ≠ ra := fun q hq => (List.mem_append.mp hq).elim (fun z => Nat.ne_of_lt (hlt q (.tail _ z))) fun z => hoff q z ra (.head _)
    k_steps
    · rename _ ≠ _ => hne
      simp only [runsGo, if_neg hne] at hgo
      refine append_K F6 N5 (.head fun q hq => ?_) (fun h7 F7 N7 => ?_) (by have := hvs.length; simp at this; simp [sizeLine]; omega)
      · rcases List.mem_cons.mp hq with rfl | hq
        · exact Nat.ne_of_lt (hlt _ (.head _))
        · exact hoffr q hq
      rw [List.push_toArray] at N7
      k_steps
      refine getLast N7 (.head _) ?_
      k_steps
      refine setLastV F7 N7 (.head fun q hq => ?_) (fun h8 F8 N8 => ?_)
      · rcases List.mem_cons.mp hq with rfl | hq
        · exact Nat.ne_of_lt (hlt _ (.head _))
        · exact hoffr q hq
      k_steps
      rename Fr g1 L1 _ _ => F9
      rename News g1 L1 _ _ => N9
      refine hj_end F9 N9 hvs (by simp; omega) ?_ hgo hoff rfl rfl rfl rfl rfl
      intro y hy
      rcases List.mem_append.mp hy with z | z
      · have := hyl y z; omega
      · rw [List.mem_singleton.mp z]
        have : (Str.ofString "").length = 0 := by decide +kernel
        rw [app_len]
        omega
    · rename _ = _ => heq
      simp only [runsGo, if_pos heq] at hgo
      obtain ⟨vs0, tl, rfl, hvs0⟩ := strs_unsnoc hvs
      refine getLast N5 (.head _) ?_
      have hl10 : last.length ≤ 10 := by have := hyl last (by simp); omega
      k_steps
      refine setLastV F6 N5 (.head fun q hq => ?_) (fun h8 F8 N8 => ?_)
      · rcases List.mem_cons.mp hq with rfl | hq
        · exact Nat.ne_of_lt (hlt _ (.head _))
        · exact hoffr q hq
      k_steps
      rename Fr g1 L1 _ _ => F9
      rename News g1 L1 _ _ => N9
      refine hj_end F9 N9 hvs0 (by omega) ?_ hgo hoff rfl rfl rfl rfl rfl
      intro y hy
      rcases List.mem_append.mp hy with z | z
      · have := hyl y (List.mem_append_left _ z); omega
      · rw [List.mem_singleton.mp z, app_len]
        have := hyl last (by simp)
        omega
  · rintro m₁ news₁ h gn tk ⟨vs, init, last, n, b, t1, rfl, hvs, hil, hyl, hgo, e1, e2, e3, e4, e5⟩ F5 N5 hbr
    have F6 := Fr.put F5 [(Str.ofString "units", _), (Str.ofString "sides", _), (Str.ofString "wished", _), (Str.ofString "runs", _), (Str.ofString "before", _)] ⟨e1, e2, e3, e4, e5, trivial⟩
    simp only [putM] at F6
    change Fr g1 L1 h _ at F6
    change News g1 L1 h _ at N5
    clear F5 F3 N3 F4 N4
    have hul0 : (units.zip sides).drop units.length = [] := List.drop_eq_nil_of_le (by simp; omega)
    rw [hul0] at hgo
    have hgo' : (init, last, b) = runsGo (units.zip sides) [] Str.empty wished := hgo
    have hT : Txt.join (Str.ofString "\"") (init ++ [last]) = textS units sides wished := by unfold textS; rw [← hgo']; rfl
    have hB : lastSide units sides wished = b := by unfold lastSide; rw [← hgo']
    have hR : lastRun units sides wished = last := by unfold lastRun; rw [← hgo']
    have hX : leftS units sides wished = stripS (if b = wished then textS units sides wished else textS units sides wished ++ quoS) := by unfold leftS; rw [hB]
    try dsimp only
    k_steps
    refine join_listW (ys := init ++ [last]) (N5.isList (.head _)) (by exact hvs) (by decide) (weight_le (k := 10) (fun y hy => by have := hyl y hy; omega) (by omega) (by simp; omega)) fun t' k' => ?_
    rw [hT]
    generalize hTT : textS units sides wished = T at *
    have hTl : T.length ≤ 40 := htl
    k_steps
    rename Fr g1 L1 _ _ => F7
    rename News g1 L1 _ _ => N7
    obtain ⟨mm, Fm, q1, q2, q3, q4⟩ := Fr.ex (P := fun mm => mm (Str.ofString "text") = some (.str T t') ∧ mm (Str.ofString "before") = some (.int b t1) ∧ mm (Str.ofString "wished") = some (.int wished t0) ∧ mm (Str.ofString "runs") = some (.ref ra)) F7 ⟨rfl, rfl, rfl, rfl⟩
    have Fl := Fr.put Fm [(Str.ofString "text", _), (Str.ofString "before", _), (Str.ofString "wished", _), (Str.ofString "runs", _)] ⟨q1, q2, q3, q4, trivial⟩
    have Fl2 := Fl
    simp only [putM] at Fl2
    clear F7 Fm
    refine Halt.go (wpAny_mono (Q := EvP g1 L1 (putM [(Str.ofString "text", .str T t'), (Str.ofString "before", .int b t1), (Str.ofString "wished", .int wished t0), (Str.ofString "runs", .ref ra)] mm) ((ra, listOf vs.toArray n) :: (L1 + 1, o1) :: rest) (if b = wished then T else T ++ quoS) { s with gens := gn }) ?_ (fun v s' hx => ?_) fun _ _ e => e)
    · refine IfExp_ ?_
      k_steps
      · rename b = wished => hbw
        exact ⟨_, _, _, by rw [if_pos hbw], rfl, Fl2, N7⟩
      · rename ¬ b = wished => hbw
        exact ⟨_, _, _, by rw [if_neg hbw]; rfl, rfl, Fl2, N7⟩
    obtain ⟨t8, h8, tk8, rfl, rfl, F9, N9⟩ := hx
    simp only [putM] at F9
    clear Fl Fl2 N7
    try dsimp only
    k_steps
    have hxa : (if b = wished then T else T ++ quoS).cps.all (· < 128) = true := by
      split
      · exact htx
      · exact ascii_app htx (by decide +kernel)
    have hxl : (if b = wished then T else T ++ quoS).cps.size ≤ 64 := by
      split
      · omega
      · have := app_len T quoS
        have h1 : quoS.length = 1 := by decide +kernel
        simp only [Str.length] at this h1
        omega
    refine Halt.go (strip_c B1 F9 X1 N9 T1 rfl _ t8 hxa hxl (by ktr_room) (by ktr_room) fun t9 h9 gn9 tk9 F10 N10 hb10 => ?_)
    rw [← hX]
    generalize hXX : leftS units sides wished = Lx at *
    clear F9 N9
    k_steps
    have hraL : ra ≠ L1 + 1 := Nat.ne_of_gt (hlt _ (.head _))
    refine storeX_C F10 N10 rfl (.tail hraL (.head fun p hp => Nat.ne_of_lt (Nat.lt_succ_of_lt (hlt1 p hp)))) d1 (fun h11 o2 F11 N11 d2 => ?_) rfl rfl
    try dsimp only at N11
    clear F10 N10
    obtain ⟨vs0, tl, rfl, hvs0⟩ := strs_unsnoc hvs
    have hl10 : last.length ≤ 10 := by have := hyl last (by simp); omega
    have hLl : Lx.length ≤ 60 := hll
    k_steps
    · rename b ≠ wished => hbw
      refine Halt.go (strip_c B1 F11 X1 N11 T1 rfl T t' htx (by omega) (by ktr_room) (by ktr_room) fun t12 h12 gn12 tk12 F12 N12 hb12 => ?_)
      clear F11 N11
      k_steps
      have hgl : (init ++ [last]).getD (-1 + ((init ++ [last]).length : Int)).toNat Str.empty = last := by
        have e : (-1 + ((init ++ [last]).length : Int)).toNat = init.length := by simp; omega
        rw [e]; simp [List.getD]
      rw [hgl]
      k_steps
      · rename (_ != _) = true => hne
        rename Fr h₀ L _ _ => FF
        rename News h₀ L _ _ => NN
        exact hbad ⟨by rw [hB]; exact hbw, by rw [hTT, hXX, hR]; exact bne_iff_ne.mp hne⟩ h12 gn12 _ (fun z => hb12 (hb10 (hbr z))) FF (fun q hq => NN q (.tail _ (.tail _ hq)))
      · rename (_ != _) = false => hne
        rename Fr g1 L1 _ _ => FF
        rename News g1 L1 _ _ => NN
        refine Halt.go (listCompD FF (by with_unfolding_all rfl) (by decide) rfl (by decide) ?_)
        k_steps
        refine Halt.go (genComp FF NN X1 T1 rfl Lx t9 hlx (by omega) (by ktr_room) (fun _ => rfl) (fun _ => rfl) (fun _ => rfl) (by decide) (fun q => Txt.item Lx (q.1 : Nat) == lastS q.2) ?_ ?_)
        · intro C D oC i m₂ ys nn h gn' tk own E' p u t1 t2 hit hoC hm2 hm1 hCD hDn hoff F' N'
          simp only [List.cons_append] at N'
          have hpb : p < Lx.length := inc_mem (escI_inc Lx.cps.size Lx.cps.toList 0 0 (by simp)).1 _ (List.mem_of_getElem? hit)
          have hul : 0 < u.length := escI_unit _ _ _ _ _ (List.mem_of_getElem? hit)
          k_steps
          · rename (_ == _) = true => hc
            exact ⟨_, _, _, rfl, F', N', fun _ h => h, hc, _, rfl⟩
          · rename (_ == _) = false => hc
            exact ⟨_, _, _, rfl, F', N', fun _ h => h, hc⟩
        · intro ys nn D h gn' tk hJ' F' N' hDlt hb'
          try dsimp only
          k_steps
          rename Fr h₀ L _ _ => FZ
          rename News h₀ L _ _ => NZ
          refine hret (fun z => z.2 (by rw [hTT, hXX, hR]; exact bne_eq_false_iff_eq.mp hne)) h gn' tk D ys nn hJ' (fun z => hb' (hb12 (hb10 (hbr z)))) FZ (fun q hq => ?_) (fun q hq => hDlt q (.tail _ (.tail _ hq)))
          rcases List.mem_cons.mp hq with rfl | hq
          · exact NZ _ (.head _)
          · exact NZ _ (.tail _ (.tail _ (.tail _ hq)))
    · rename b = wished => hbw
      rename Fr g1 L1 _ _ => FF
      rename News g1 L1 _ _ => NN
      refine Halt.go (listCompD FF (by with_unfolding_all rfl) (by decide) rfl (by decide) ?_)
      k_steps
      refine Halt.go (genComp FF NN X1 T1 rfl Lx t9 hlx (by omega) (by ktr_room) (fun _ => rfl) (fun _ => rfl) (fun _ => rfl) (by decide) (fun q => Txt.item Lx (q.1 : Nat) == lastS q.2) ?_ ?_)
      · intro C D oC i m₂ ys nn h gn' tk own E' p u t1 t2 hit hoC hm2 hm1 hCD hDn hoff F' N'
        simp only [List.cons_append] at N'
        have hpb : p < Lx.length := inc_mem (escI_inc Lx.cps.size Lx.cps.toList 0 0 (by simp)).1 _ (List.mem_of_getElem? hit)
        have hul : 0 < u.length := escI_unit _ _ _ _ _ (List.mem_of_getElem? hit)
        k_steps
        · rename (_ == _) = true => hc
          exact ⟨_, _, _, rfl, F', N', fun _ h => h, hc, _, rfl⟩
        · rename (_ == _) = false => hc
          exact ⟨_, _, _, rfl, F', N', fun _ h => h, hc⟩
      · intro ys nn D h gn' tk hJ' F' N' hDlt hb'
        try dsimp only
        k_steps
        rename Fr h₀ L _ _ => FZ
        rename News h₀ L _ _ => NZ
        refine hret (fun z => z.1 (by rw [hB]; exact hbw)) h gn' tk D ys nn hJ' (fun z => hb' (hb10 (hbr z))) FZ (fun q hq => ?_) (fun q hq => hDlt q (.tail _ (.tail _ hq)))
        rcases List.mem_cons.mp hq with rfl | hq
        · exact NZ _ (.head _)
        · exact NZ _ (.tail _ (.tail _ (.tail _ hq)))
end
end
section
open PySem PySem.W PyProof.Rows PySem.Calls PySem.Spec
namespace Mine
def midAt (word : List Str) (k : Nat) : Bool := ltS (word.getD k default) (maxS (word.take (k + 1))) && ltS (minS (word.drop k)) (word.getD k default)
def fewL (word : List Str) : List Int := ((List.range word.length).filter (midAt word)).map Int.ofNat
def sideOf (us : List Str) (sides : List Int) (wished : Int) : List Str := selS us (fun i => decide (sides.getD i 0 = wished)) us.length
end Mine
end
section
open PySem PySem.W PyProof.Rows PySem.Calls PySem.Spec
namespace Mine
structure SidesOk (us : List Str) (sides : List Int) : Prop where
  len : sides.length = us.length
  first : sides.getD 0 0 = 0
  bits : ∀ d ∈ sides, d = 0 ∨ d = 1
theorem unit_ok {u : Str} (h : unitOk u) : PyData.strOk u = true ∧ PyData.strOk (lastS u) = true ∧ 0 < u.length ∧ u.length ≤ 2 := by
  obtain ⟨c, ⟨rfl, h⟩ | ⟨rfl, h⟩⟩ := h
  · rcases h with rfl | rfl | rfl | rfl | rfl <;> exact ⟨by decide +kernel, by decide +kernel, by decide, by decide⟩
  · rcases h with rfl | rfl | rfl <;> exact ⟨by decide +kernel, by decide +kernel, by decide, by decide⟩
end Mine
end
section
open PySem PySem.W PyProof.Rows PySem.Calls PySem.Spec
namespace Mine
def chS (c : Nat) : Str := ⟨#[c]⟩
theorem chS_inj {a b : Nat} (h : chS a = chS b) : a = b := by
  have := congrArg (fun y : Str => y.cps.toList) h
  simpa [chS] using this
theorem chS_lt (a b : Nat) : ((chS a).cps.toList < (chS b).cps.toList) ↔ a < b := by
  show ([a] < [b]) ↔ a < b
  rw [List.cons_lt_cons_iff]
  constructor
  · rintro (h | ⟨_, h⟩)
    · exact h
    · cases h
  · exact .inl
theorem ltS_ch (a b : Nat) : ltS (chS a) (chS b) = decide (a < b) := by
  unfold ltS
  by_cases h : a < b
  · rw [decide_eq_true h, decide_eq_true ((chS_lt a b).mpr h)]
  · rw [decide_eq_false h, decide_eq_false fun z => h ((chS_lt a b).mp z)]
/-- the signs of the units, as numbers -/
theorem unit_last {u : Str} (h : unitOk u) : ∃ c, lastS u = chS c ∧ (c = 34 ∨ c = 40 ∨ c = 92 ∨ c = 97 ∨ c = 98) := by
  obtain ⟨c, ⟨rfl, h⟩ | ⟨rfl, h⟩⟩ := h
  · refine ⟨c, ?_, h⟩
    rcases h with rfl | rfl | rfl | rfl | rfl <;> decide +kernel
  · refine ⟨c, ?_, ?_⟩
    · rcases h with rfl | rfl | rfl <;> decide +kernel
    · rcases h with rfl | rfl | rfl <;> simp
def keyN (u : Str) : Nat := (lastS u).cps.toList.headD 0
theorem key_last {u : Str} (h : unitOk u) : lastS u = chS (keyN u) := by
  obtain ⟨c, e, _⟩ := unit_last h
  unfold keyN; rw [e]; rfl
theorem key_mem {u : Str} (h : unitOk u) : keyN u = 34 ∨ keyN u = 40 ∨ keyN u = 92 ∨ keyN u = 97 ∨ keyN u = 98 := by
  obtain ⟨c, e, hc⟩ := unit_last h
  have : keyN u = c := by unfold keyN; rw [e]; rfl
  rw [this]; exact hc
theorem map_last {us : List Str} (h : ∀ u ∈ us, unitOk u) : us.map lastS = (us.map keyN).map chS := by
  rw [List.map_map]
  exact List.map_congr_left fun u hu => key_last (h u hu)
/-- a comparison of places by their values -/
theorem best_gt (val : Nat → Nat) (bt : Nat → Nat → Bool) (n : Nat) (hb : ∀ i j, i ≤ n → j ≤ n → bt i j = decide (val j < val i)) : ∀ k, k ≤ n → argBest bt k ≤ k ∧ ∀ i, i ≤ k → val i ≤ val (argBest bt k)
  | 0, _ => ⟨Nat.le_refl _, fun i hi => by rw [Nat.le_zero.mp hi]; exact Nat.le_refl _⟩
  | k + 1, hk => by
    obtain ⟨h1, h2⟩ := best_gt val bt n hb k (by omega)
    unfold argBest
    rw [hb _ _ hk (by omega)]
    by_cases h : val (argBest bt k) < val (k + 1)
    · rw [decide_eq_true h, if_pos rfl]
      refine ⟨Nat.le_refl _, fun i hi => ?_⟩
      by_cases e : i = k + 1
      · rw [e]; exact Nat.le_refl _
      · exact Nat.le_trans (h2 i (by omega)) (Nat.le_of_lt h)
    · rw [decide_eq_false h, if_neg (by decide)]
      refine ⟨by omega, fun i hi => ?_⟩
      by_cases e : i = k + 1
      · rw [e]; omega
      · exact h2 i (by omega)
theorem best_lt (val : Nat → Nat) (bt : Nat → Nat → Bool) (n : Nat) (hb : ∀ i j, i ≤ n → j ≤ n → bt i j = decide (val i < val j)) : ∀ k, k ≤ n → argBest bt k ≤ k ∧ ∀ i, i ≤ k → val (argBest bt k) ≤ val i
  | 0, _ => ⟨Nat.le_refl _, fun i hi => by rw [Nat.le_zero.mp hi]; exact Nat.le_refl _⟩
  | k + 1, hk => by
    obtain ⟨h1, h2⟩ := best_lt val bt n hb k (by omega)
    unfold argBest
    rw [hb _ _ hk (by omega)]
    by_cases h : val (k + 1) < val (argBest bt k)
    · rw [decide_eq_true h, if_pos rfl]
      refine ⟨Nat.le_refl _, fun i hi => ?_⟩
      by_cases e : i = k + 1
      · rw [e]; exact Nat.le_refl _
      · exact Nat.le_trans (Nat.le_of_lt h) (h2 i (by omega))
    · rw [decide_eq_false h, if_neg (by decide)]
      refine ⟨by omega, fun i hi => ?_⟩
      by_cases e : i = k + 1
      · rw [e]; omega
      · exact h2 i (by omega)
theorem getD_ch (cs : List Nat) (i : Nat) (h : i < cs.length) : (cs.map chS).getD i default = chS (cs.getD i 0) := by
  simp [List.getD, h]
theorem maxS_ch (cs : List Nat) (h : 0 < cs.length) : ∃ j, j < cs.length ∧ maxS (cs.map chS) = chS (cs.getD j 0) ∧ ∀ i, i < cs.length → cs.getD i 0 ≤ cs.getD j 0 := by
  have z := best_gt (fun i => cs.getD i 0) (fun i j => decide (((cs.map chS).getD j default).cps.toList < ((cs.map chS).getD i default).cps.toList)) (cs.length - 1) (fun i j hi hj => by
    rw [getD_ch cs i (by omega), getD_ch cs j (by omega)]
    by_cases q : cs.getD j 0 < cs.getD i 0
    · rw [decide_eq_true q, decide_eq_true ((chS_lt _ _).mpr q)]
    · rw [decide_eq_false q, decide_eq_false fun z => q ((chS_lt _ _).mp z)]) (cs.length - 1) (Nat.le_refl _)
  refine ⟨_, Nat.lt_of_le_of_lt z.1 (by omega), ?_, fun i hi => z.2 i (by omega)⟩
  unfold maxS
  rw [List.length_map]
  exact getD_ch cs _ (Nat.lt_of_le_of_lt z.1 (by omega))
theorem minS_ch (cs : List Nat) (h : 0 < cs.length) : ∃ j, j < cs.length ∧ minS (cs.map chS) = chS (cs.getD j 0) ∧ ∀ i, i < cs.length → cs.getD j 0 ≤ cs.getD i 0 := by
  have z := best_lt (fun i => cs.getD i 0) (fun i j => decide (((cs.map chS).getD i default).cps.toList < ((cs.map chS).getD j default).cps.toList)) (cs.length - 1) (fun i j hi hj => by
    rw [getD_ch cs i (by omega), getD_ch cs j (by omega)]
    by_cases q : cs.getD i 0 < cs.getD j 0
    · rw [decide_eq_true q, decide_eq_true ((chS_lt _ _).mpr q)]
    · rw [decide_eq_false q, decide_eq_false fun z => q ((chS_lt _ _).mp z)]) (cs.length - 1) (Nat.le_refl _)
  refine ⟨_, Nat.lt_of_le_of_lt z.1 (by omega), ?_, fun i hi => z.2 i (by omega)⟩
  unfold minS
  rw [List.length_map]
  exact getD_ch cs _ (Nat.lt_of_le_of_lt z.1 (by omega))
theorem maxT (cs : List Nat) (k : Nat) (hk : k < cs.length) : ∃ j, j ≤ k ∧ maxS ((cs.map chS).take (k + 1)) = chS (cs.getD j 0) ∧ ∀ i, i ≤ k → cs.getD i 0 ≤ cs.getD j 0 := by
  have gt : ∀ i, i ≤ k → (cs.take (k + 1)).getD i 0 = cs.getD i 0 := fun i hi => by
    simp [List.getD, List.getElem?_take, show i < k + 1 by omega]
  obtain ⟨j, h1, h2, h3⟩ := maxS_ch (cs.take (k + 1)) (by simp; omega)
  have hj : j ≤ k := by simp at h1; omega
  refine ⟨j, hj, ?_, fun i hi => ?_⟩
  · rw [← List.map_take, h2, gt j hj]
  · have := h3 i (by simp; omega)
    rw [gt i hi, gt j hj] at this
    exact this
theorem minD (cs : List Nat) (k : Nat) (hk : k < cs.length) : ∃ j, k ≤ j ∧ j < cs.length ∧ minS ((cs.map chS).drop k) = chS (cs.getD j 0) ∧ ∀ i, k ≤ i → i < cs.length → cs.getD j 0 ≤ cs.getD i 0 := by
  have gt : ∀ i, (cs.drop k).getD i 0 = cs.getD (k + i) 0 := fun i => by
    simp [List.getD, List.getElem?_drop]
  obtain ⟨j, h1, h2, h3⟩ := minS_ch (cs.drop k) (by simp; omega)
  have hj : j < cs.length - k := by simpa using h1
  refine ⟨k + j, by omega, by omega, ?_, fun i hi hi2 => ?_⟩
  · rw [← List.map_drop, h2, gt j]
  · have := h3 (i - k) (by simp; omega)
    rw [gt, gt, show k + (i - k) = i by omega] at this
    exact this
theorem mid_ch (cs : List Nat) (k : Nat) (hk : k < cs.length) : midAt (cs.map chS) k = true ↔ (∃ i, i < k ∧ cs.getD k 0 < cs.getD i 0) ∧ ∃ j, k < j ∧ j < cs.length ∧ cs.getD j 0 < cs.getD k 0 := by
  obtain ⟨a, a1, a2, a3⟩ := maxT cs k hk
  obtain ⟨b, b1, b2, b3, b4⟩ := minD cs k hk
  unfold midAt
  rw [getD_ch cs k hk, a2, b3, ltS_ch, ltS_ch, Bool.and_eq_true, decide_eq_true_eq, decide_eq_true_eq]
  constructor
  · rintro ⟨h1, h2⟩
    refine ⟨⟨a, ?_, h1⟩, b, ?_, b2, h2⟩
    · rcases Nat.lt_or_ge a k with h | h
      · exact h
      · have : a = k := by omega
        rw [this] at h1; omega
    · rcases Nat.lt_or_ge k b with h | h
      · exact h
      · have : b = k := by omega
        rw [this] at h2; omega
  · rintro ⟨⟨i, hi, h1⟩, j, hj, hj2, h2⟩
    have := a3 i (by omega)
    have := b4 j (by omega) hj2
    omega
theorem few_ch (cs : List Nat) : fewL (cs.map chS) = [] ↔ ∀ k, k < cs.length → ¬ ((∃ i, i < k ∧ cs.getD k 0 < cs.getD i 0) ∧ ∃ j, k < j ∧ j < cs.length ∧ cs.getD j 0 < cs.getD k 0) := by
  unfold fewL
  rw [List.map_eq_nil_iff, List.filter_eq_nil_iff, List.length_map]
  constructor
  · intro h k hk z
    exact h k (List.mem_range.mpr hk) ((mid_ch cs k hk).mpr z)
  · intro h k hk z
    exact h k (List.mem_range.mp hk) ((mid_ch cs k (List.mem_range.mp hk)).mp z)
theorem turned_ch (cs : List Nat) (sides : List Int) (k : Nat) (hk : k < cs.length) : ((∀ i, i ≤ k → cs.getD i 0 ≤ cs.getD k 0) → turnedS (cs.map chS) sides k = sides.getD k 0) ∧ ((∃ i, i < k ∧ cs.getD k 0 < cs.getD i 0) → turnedS (cs.map chS) sides k = 1 - sides.getD k 0) := by
  obtain ⟨a, a1, a2, a3⟩ := maxT cs k hk
  unfold turnedS
  rw [a2, getD_ch cs k hk]
  constructor
  · intro h
    have h1 := h a a1
    have h2 := a3 k (Nat.le_refl _)
    rw [if_pos (by rw [show cs.getD a 0 = cs.getD k 0 by omega])]
  · rintro ⟨i, hi, h⟩
    have h2 := a3 i (by omega)
    rw [if_neg fun e => by have := chS_inj e; omega]
theorem fit_ch (cs : List Nat) (sides : List Int) (k : Nat) (h1 : 1 ≤ k) (hk : k < cs.length) : fitAt (cs.map chS) sides k ↔ ((∃ i, i < k ∧ ∃ j, k ≤ j ∧ j < cs.length ∧ cs.getD j 0 < cs.getD i 0) → turnedS (cs.map chS) sides k = turnedS (cs.map chS) sides (k - 1)) := by
  obtain ⟨a, a1, a2, a3⟩ := maxT cs (k - 1) (by omega)
  obtain ⟨b, b1, b2, b3, b4⟩ := minD cs k hk
  rw [show k - 1 + 1 = k by omega] at a2
  unfold fitAt
  rw [a2, b3, ltS_ch, decide_eq_true_eq]
  constructor
  · rintro h ⟨i, hi, j, hj, hj2, hij⟩
    have := a3 i (by omega)
    have := b4 j hj hj2
    exact h (by omega)
  · intro h z
    exact h ⟨a, by omega, b, b1, b2, z⟩
/-- the law of few and fits: both sides rise -/
theorem plain_core (w : Nat → Nat) (s : Nat → Int) (t : Nat → Int) (n : Nat) (hs : ∀ i, i < n → s i = 0 ∨ s i = 1)
    (ht1 : ∀ k, k < n → (∀ i, i ≤ k → w i ≤ w k) → t k = s k) (ht2 : ∀ k, k < n → (∃ i, i < k ∧ w k < w i) → t k = 1 - s k) :
    (∀ i j, i < j → j < n → s i = s j → w i ≤ w j) ↔ ((∀ k, k < n → ¬ ((∃ i, i < k ∧ w k < w i) ∧ ∃ j, k < j ∧ j < n ∧ w j < w k)) ∧ ∀ k, 1 ≤ k → k < n → (∃ i, i < k ∧ ∃ j, k ≤ j ∧ j < n ∧ w j < w i) → t k = t (k - 1)) := by
  have rec_or : ∀ k, (∀ i, i ≤ k → w i ≤ w k) ∨ ∃ i, i < k ∧ w k < w i := fun k => by
    by_cases h : ∃ i, i < k ∧ w k < w i
    · exact .inr h
    · refine .inl fun i hi => ?_
      rcases Nat.lt_or_ge i k with q | q
      · exact Nat.not_lt.mp fun z => h ⟨i, q, z⟩
      · have : i = k := by omega
        rw [this]; exact Nat.le_refl _
  constructor
  · intro h
    have opp : ∀ i j, i < j → j < n → w j < w i → s i = 1 - s j := fun i j hij hj hw => by
      have := fun e => h i j hij hj e
      rcases hs i (by omega) with a | a <;> rcases hs j hj with b | b
      · exact absurd (this (by rw [a, b])) (by omega)
      · rw [a, b]; rfl
      · rw [a, b]; rfl
      · exact absurd (this (by rw [a, b])) (by omega)
    refine ⟨?_, ?_⟩
    · rintro k hk ⟨⟨i, hi, h1⟩, j, hj, hj2, h2⟩
      have e1 := opp i k hi hk h1
      have e2 := opp k j hj hj2 h2
      have e3 := opp i j (by omega) hj2 (by omega)
      rcases hs k hk with a | a <;> rcases hs j hj2 with b | b <;> omega
    · intro k h1 hk hij
      obtain ⟨i0, hi0, j, hj, hj2, hw⟩ := hij
      -- the max ahead of k
      have ex : ∃ i, i < k ∧ (∀ i', i' < k → w i' ≤ w i) := by
        clear hw hi0 hj hj2
        induction k with
        | zero => omega
        | succ k ih =>
          rcases Nat.eq_zero_or_pos k with z | z
          · subst z; exact ⟨0, by omega, fun i' hi' => by rw [show i' = 0 by omega]; exact Nat.le_refl _⟩
          · obtain ⟨i, hi, hm⟩ := ih z (by omega)
            by_cases q : w i < w k
            · exact ⟨k, by omega, fun i' hi' => by
                rcases Nat.lt_or_ge i' k with y | y
                · exact Nat.le_trans (hm i' y) (Nat.le_of_lt q)
                · rw [show i' = k by omega]; exact Nat.le_refl _⟩
            · exact ⟨i, by omega, fun i' hi' => by
                rcases Nat.lt_or_ge i' k with y | y
                · exact hm i' y
                · rw [show i' = k by omega]; omega⟩
      obtain ⟨i, hi, hm⟩ := ex
      have hwi : w j < w i := Nat.lt_of_lt_of_le hw (hm i0 hi0)
      have eij := opp i j (by omega) hj2 hwi
      have ek : t k = s i := by
        rcases rec_or k with q | q
        · rw [ht1 k hk q]
          have : w j < w k := Nat.lt_of_lt_of_le hwi (q i (by omega))
          have hkj : k < j := by
            rcases Nat.lt_or_ge k j with y | y
            · exact y
            · rw [show j = k by omega] at this; omega
          have := opp k j hkj hj2 this
          omega
        · rw [ht2 k hk q]
          obtain ⟨i', hi', hw'⟩ := q
          have := opp i k hi hk (Nat.lt_of_lt_of_le hw' (hm i' hi'))
          omega
      have ek1 : t (k - 1) = s i := by
        rcases rec_or (k - 1) with q | q
        · rw [ht1 (k - 1) (by omega) q]
          have : w j < w (k - 1) := Nat.lt_of_lt_of_le hwi (q i (by omega))
          have := opp (k - 1) j (by omega) hj2 this
          omega
        · rw [ht2 (k - 1) (by omega) q]
          obtain ⟨i', hi', hw'⟩ := q
          have h3 : w (k - 1) < w i := Nat.lt_of_lt_of_le hw' (hm i' (by omega))
          have hik : i < k - 1 := by
            rcases Nat.lt_or_ge i (k - 1) with y | y
            · exact y
            · rw [show i = k - 1 by omega] at h3; omega
          have := opp i (k - 1) hik (by omega) h3
          omega
      rw [ek, ek1]
  · rintro ⟨hf, hfit⟩ i j hij hj hsij
    refine Nat.not_lt.mp fun hw => ?_
    have hti : t i = s i := by
      rcases rec_or i with q | q
      · exact ht1 i (by omega) q
      · exact absurd ⟨q, j, hij, hj, hw⟩ (hf i (by omega))
    have htj : t j = 1 - s j := ht2 j hj ⟨i, hij, hw⟩
    have eq : ∀ d, i + d ≤ j → t (i + d) = t i := by
      intro d
      induction d with
      | zero => intro _; rfl
      | succ d ih =>
        intro hd
        have := hfit (i + (d + 1)) (by omega) (by omega) ⟨i, by omega, j, by omega, hj, hw⟩
        rw [this, show i + (d + 1) - 1 = i + d by omega]
        exact ih (by omega)
    have := eq (j - i) (by omega)
    rw [show i + (j - i) = j by omega] at this
    rcases hs j hj with a | a <;> omega
end Mine
end
section
open PySem PySem.W PyProof.Rows PySem.Calls PySem.Spec
namespace Mine
theorem bis_spec (cs : List Nat) (x : Nat) (hs : ∀ i j, i < j → j < cs.length → cs.getD i 0 ≤ cs.getD j 0) : ∀ f lo hi, hi - lo ≤ f → lo ≤ hi → hi ≤ cs.length → (∀ i, i < lo → cs.getD i 0 ≤ x) → (∀ i, hi ≤ i → i < cs.length → x < cs.getD i 0) →
    bisGo (cs.map chS) (chS x) f lo hi ≤ cs.length ∧ (∀ i, i < bisGo (cs.map chS) (chS x) f lo hi → cs.getD i 0 ≤ x) ∧ ∀ i, bisGo (cs.map chS) (chS x) f lo hi ≤ i → i < cs.length → x < cs.getD i 0
  | 0, lo, hi, hf, hl, hh, h1, h2 => by
    have : lo = hi := by omega
    subst this
    exact ⟨hh, h1, h2⟩
  | f + 1, lo, hi, hf, hl, hh, h1, h2 => by
    unfold bisGo
    by_cases q : lo < hi
    · rw [if_pos q]
      have hm : (lo + hi) / 2 < cs.length := by omega
      rw [getD_ch cs _ hm]
      by_cases z : x < cs.getD ((lo + hi) / 2) 0
      · rw [if_pos ((chS_lt _ _).mpr z)]
        refine bis_spec cs x hs f lo _ (by omega) (by omega) (by omega) h1 fun i hi2 hi3 => ?_
        rcases Nat.lt_or_ge ((lo + hi) / 2) i with y | y
        · exact Nat.lt_of_lt_of_le z (hs _ _ y hi3)
        · rw [show i = (lo + hi) / 2 by omega]; exact z
      · rw [if_neg fun y => z ((chS_lt _ _).mp y)]
        refine bis_spec cs x hs f _ hi (by omega) (by omega) hh (fun i hi2 => ?_) h2
        rcases Nat.lt_or_ge i ((lo + hi) / 2) with y | y
        · have := hs _ _ y hm
          omega
        · rw [show i = (lo + hi) / 2 by omega]; omega
    · rw [if_neg q]
      have : lo = hi := by omega
      subst this
      exact ⟨hh, h1, h2⟩
/-- rising by keys -/
def Up (ks : List Nat) : Prop := ks.Pairwise (· ≤ ·)
theorem up_get {ks : List Nat} (h : Up ks) : ∀ i j, i < j → j < ks.length → ks.getD i 0 ≤ ks.getD j 0 := fun i j hij hj => by
  have := List.pairwise_iff_getElem.mp h i j (by omega) hj hij
  simpa [List.getD, show i < ks.length by omega, hj] using this
theorem up_of {ks : List Nat} (h : ∀ i j, i < j → j < ks.length → ks.getD i 0 ≤ ks.getD j 0) : Up ks :=
  List.pairwise_iff_getElem.mpr fun i j hi hj hij => by
    have := h i j hij hj
    simpa [List.getD, hi, hj] using this
theorem ins_up {xs : List Str} {y : Str} (hx : ∀ u ∈ xs, unitOk u) (hy : unitOk y) (h : Up (xs.map keyN)) : Up ((insS xs y).map keyN) ∧ ((∀ u ∈ xs, keyN u ≤ keyN y) → insS xs y = xs ++ [y]) := by
  obtain ⟨a, b, c⟩ := bis_spec (xs.map keyN) (keyN y) (up_get h) (xs.map keyN).length 0 (xs.map keyN).length (by omega) (by omega) (Nat.le_refl _) (fun i hi => by omega) (fun i h1 h2 => by omega)
  have e : bisR (xs.map lastS) (lastS y) = bisGo ((xs.map keyN).map chS) (chS (keyN y)) (xs.map keyN).length 0 (xs.map keyN).length := by
    rw [map_last hx, key_last hy]
    unfold bisR
    rw [List.length_map]
  generalize hp : bisGo ((xs.map keyN).map chS) (chS (keyN y)) (xs.map keyN).length 0 (xs.map keyN).length = p at *
  rw [List.length_map] at a c
  constructor
  · unfold insS
    rw [e, List.map_append, List.map_cons]
    unfold Up at h ⊢
    have hh := h
    rw [← List.take_append_drop p xs, List.map_append, List.pairwise_append] at hh
    rw [List.pairwise_append, List.pairwise_cons]
    have htake : ∀ k ∈ (xs.take p).map keyN, k ≤ keyN y := fun k hk => by
      obtain ⟨i, hi, rfl⟩ := List.getElem_of_mem hk
      have hi' : i < p := by simp at hi; omega
      have := b i hi'
      simpa [List.getD, show i < xs.length by omega] using this
    have hdrop : ∀ k ∈ (xs.drop p).map keyN, keyN y ≤ k := fun k hk => by
      obtain ⟨i, hi, rfl⟩ := List.getElem_of_mem hk
      have hi' : p + i < xs.length := by simp at hi; omega
      have := c (p + i) (by omega) hi'
      simp [List.getD, hi'] at this ⊢
      omega
    refine ⟨hh.1, ⟨hdrop, hh.2.1⟩, fun k hk k' hk' => ?_⟩
    rcases List.mem_cons.mp hk' with rfl | hk'
    · exact htake k hk
    · exact hh.2.2 k hk k' hk'
  · intro hall
    have hpn : p = xs.length := by
      rcases Nat.lt_or_ge p xs.length with z | z
      · have h1 := c p (Nat.le_refl _) z
        have h2 := hall xs[p] (List.getElem_mem z)
        simp [List.getD, z] at h1
        omega
      · omega
    unfold insS
    rw [e, hpn, List.take_length, List.drop_length]
theorem sort_up : ∀ (l acc : List Str), (∀ u ∈ acc, unitOk u) → (∀ u ∈ l, unitOk u) → Up (acc.map keyN) → Up ((l.foldl insS acc).map keyN) ∧ (Up ((acc ++ l).map keyN) → l.foldl insS acc = acc ++ l)
  | [], acc, _, _, h => ⟨h, fun _ => by simp⟩
  | y :: l, acc, ha, hl, h => by
    have hy := hl y (.head _)
    obtain ⟨i1, i2⟩ := ins_up ha hy h
    have hm : ∀ u ∈ insS acc y, unitOk u := fun u hu => (insS_mem hu).elim (ha u) fun z => z ▸ hy
    obtain ⟨j1, j2⟩ := sort_up l (insS acc y) hm (fun u hu => hl u (.tail _ hu)) i1
    refine ⟨j1, fun hup => ?_⟩
    have hins : insS acc y = acc ++ [y] := i2 fun u hu => by
      unfold Up at hup
      rw [List.map_append, List.pairwise_append] at hup
      exact hup.2.2 _ (List.mem_map_of_mem hu) _ (by simp)
    rw [List.foldl_cons, j2 (by rw [hins]; simpa using hup), hins]
    simp
theorem sort_iff (hs : List Str) (h : ∀ u ∈ hs, unitOk u) : sortS hs = hs ↔ Up (hs.map keyN) := by
  obtain ⟨a, b⟩ := sort_up hs [] (fun _ h => nomatch h) h List.Pairwise.nil
  constructor
  · intro e
    unfold sortS at e
    rw [e] at a; exact a
  · intro z
    unfold sortS
    simpa using b (by simpa using z)
theorem side_up (us : List Str) (sides : List Int) (d : Int) : Up ((sideOf us sides d).map keyN) ↔ ∀ i j, i < j → j < us.length → sides.getD i 0 = d → sides.getD j 0 = d → (us.map keyN).getD i 0 ≤ (us.map keyN).getD j 0 := by
  unfold Up sideOf selS
  rw [List.map_map, List.pairwise_map, List.pairwise_filter, List.pairwise_iff_getElem]
  have gk : ∀ i, i < us.length → (keyN ∘ fun x => us.getD x default) i = (us.map keyN).getD i 0 := fun i hi => by
    simp [List.getD, hi]
  constructor
  · intro h i j hij hj h1 h2
    have := h i j (by simp; omega) (by simpa using hj) hij
    simp only [List.getElem_range] at this
    have z := this (decide_eq_true h1) (decide_eq_true h2)
    rw [gk i (by omega), gk j hj] at z
    exact z
  · intro h i j hi hj hij h1 h2
    simp only [List.length_range] at hi hj
    simp only [List.getElem_range] at h1 h2 ⊢
    rw [gk i hi, gk j hj]
    exact h i j hij hj (of_decide_eq_true h1) (of_decide_eq_true h2)
theorem plain_rise' (us : List Str) (sides : List Int) (huo : ∀ u ∈ us, unitOk u) (hs : SidesOk us sides) :
    (sortS (sideOf us sides 0) = sideOf us sides 0 ∧ sortS (sideOf us sides 1) = sideOf us sides 1) ↔ (fewL (us.map lastS) = [] ∧ fitsS (us.map lastS) sides) := by
  have hmem : ∀ d, ∀ u ∈ sideOf us sides d, unitOk u := fun d u hu => by
    unfold sideOf selS at hu
    obtain ⟨i, hi, rfl⟩ := List.mem_map.mp hu
    have hi' := List.mem_range.mp (List.mem_filter.mp hi).1
    exact huo _ (by simp [List.getD, hi'])
  rw [sort_iff _ (hmem 0), sort_iff _ (hmem 1), side_up, side_up, map_last huo, few_ch]
  have hbit : ∀ i, i < us.length → sides.getD i 0 = 0 ∨ sides.getD i 0 = 1 := fun i hi => by
    have hi' : i < sides.length := by rw [hs.len]; exact hi
    have := hs.bits _ (List.getElem_mem hi')
    simpa [List.getD, hi'] using this
  have core := plain_core (fun i => (us.map keyN).getD i 0) (fun i => sides.getD i 0) (turnedS ((us.map keyN).map chS) sides) us.length hbit
    (fun k hk h => (turned_ch (us.map keyN) sides k (by simpa using hk)).1 h) (fun k hk h => (turned_ch (us.map keyN) sides k (by simpa using hk)).2 h)
  have hlen : (us.map keyN).length = us.length := by simp
  have hfit : fitsS ((us.map keyN).map chS) sides ↔ ∀ k, 1 ≤ k → k < us.length → (∃ i, i < k ∧ ∃ j, k ≤ j ∧ j < us.length ∧ (us.map keyN).getD j 0 < (us.map keyN).getD i 0) → turnedS ((us.map keyN).map chS) sides k = turnedS ((us.map keyN).map chS) sides (k - 1) := by
    unfold fitsS
    rw [List.length_map, hlen]
    constructor
    · intro h k h1 h2
      have := (fit_ch (us.map keyN) sides k h1 (by omega)).mp (h k h1 h2)
      rw [hlen] at this; exact this
    · intro h k h1 h2
      refine (fit_ch (us.map keyN) sides k h1 (by omega)).mpr ?_
      rw [hlen]; exact h k h1 h2
  rw [hlen, hfit, ← core]
  constructor
  · rintro ⟨h0, h1⟩ i j hij hj e
    rcases hbit i (by omega) with z | z
    · exact h0 i j hij hj z (e ▸ z)
    · exact h1 i j hij hj z (e ▸ z)
  · intro h
    exact ⟨fun i j hij hj e1 e2 => h i j hij hj (e1.trans e2.symm), fun i j hij hj e1 e2 => h i j hij hj (e1.trans e2.symm)⟩
end Mine
end
section
open PySem PySem.W PyProof.Rows PySem.Calls PySem.Spec
namespace Mine
def bisN (xs : List Nat) (x : Nat) : Nat → Nat → Nat → Nat
  | 0, lo, _ => lo
  | f + 1, lo, hi => if lo < hi then (if x < xs.getD ((lo + hi) / 2) 0 then bisN xs x f lo ((lo + hi) / 2) else bisN xs x f ((lo + hi) / 2 + 1) hi) else lo
theorem bis_ch (cs : List Nat) (x : Nat) : ∀ f lo hi, hi ≤ cs.length → bisGo (cs.map chS) (chS x) f lo hi = bisN cs x f lo hi
  | 0, _, _, _ => rfl
  | f + 1, lo, hi, h => by
    unfold bisGo bisN
    by_cases q : lo < hi
    · rw [if_pos q, if_pos q, getD_ch cs _ (by omega)]
      by_cases z : x < cs.getD ((lo + hi) / 2) 0
      · rw [if_pos ((chS_lt _ _).mpr z), if_pos z]; exact bis_ch cs x f _ _ (by omega)
      · rw [if_neg fun y => z ((chS_lt _ _).mp y), if_neg z]; exact bis_ch cs x f _ _ h
    · rw [if_neg q, if_neg q]
theorem bisR_ch (cs : List Nat) (x : Nat) : bisR (cs.map chS) (chS x) = bisN cs x cs.length 0 cs.length := by
  unfold bisR
  rw [List.length_map]
  exact bis_ch cs x _ _ _ (Nat.le_refl _)
def bumpN : List (List Nat) → Nat → List (List Nat)
  | [], _ => []
  | r :: rs, s => if bisN r s r.length 0 r.length = r.length then (r ++ [s]) :: rs else r.set (bisN r s r.length 0 r.length) s :: bumpN rs (r.getD (bisN r s r.length 0 r.length) 0)
theorem bump_ch : ∀ (rs : List (List Nat)) (s : Nat), bumpGo (rs.map (List.map chS)) (chS s) = (bumpN rs s).map (List.map chS)
  | [], _ => rfl
  | r :: rs, s => by
    have hle := bisR_le (r.map chS) (chS s)
    rw [List.map_cons]
    unfold bumpGo bumpN
    rw [bisR_ch] at hle ⊢
    rw [List.length_map] at hle ⊢
    by_cases q : bisN r s r.length 0 r.length = r.length
    · rw [if_pos q, if_pos q, List.map_cons, List.map_append]; rfl
    · rw [if_neg q, if_neg q, List.map_cons, getD_ch r _ (by omega), bump_ch rs, List.map_set]
theorem rows_ch : ∀ (l : List Nat) (acc : List (List Nat)), (l.map chS).foldl bump (acc.map (List.map chS)) = (l.foldl (fun rs s => bumpN (rs ++ [[]]) s) acc).map (List.map chS)
  | [], _ => rfl
  | x :: l, acc => by
    rw [List.map_cons, List.foldl_cons, List.foldl_cons]
    have e : bump (acc.map (List.map chS)) (chS x) = (bumpN (acc ++ [[]]) x).map (List.map chS) := by
      unfold bump
      rw [← bump_ch, List.map_append]; rfl
    rw [e]
    exact rows_ch l _
def rowsN (cs : List Nat) : List (List Nat) := cs.foldl (fun rs s => bumpN (rs ++ [[]]) s) []
theorem rowsS_ch (cs : List Nat) : rowsS (cs.map chS) = (rowsN cs).map (List.map chS) := rows_ch cs []
def cntN (cs : List Nat) : Nat := ((rowsN cs).filter fun r => !r.isEmpty).length
theorem cnt_ch (cs : List Nat) : ((rowsS (cs.map chS)).filter (· ≠ [])).length = cntN cs := by
  unfold cntN
  rw [rowsS_ch, List.filter_map, List.length_map]
  congr 1
  refine List.filter_congr fun r _ => ?_
  cases r <;> simp
def fewN (cs : List Nat) : Bool := (List.range cs.length).all fun k => !((List.range k).any (fun i => decide (cs.getD k 0 < cs.getD i 0)) && (List.range cs.length).any fun j => decide (k < j) && decide (cs.getD j 0 < cs.getD k 0))
theorem fewN_ch (cs : List Nat) : fewL (cs.map chS) = [] ↔ fewN cs = true := by
  rw [few_ch]
  unfold fewN
  rw [List.all_eq_true]
  constructor
  · intro h k hk
    have hk' := List.mem_range.mp hk
    rw [Bool.not_eq_true', Bool.and_eq_false_iff]
    by_cases a : ∃ i, i < k ∧ cs.getD k 0 < cs.getD i 0
    · refine .inr (List.any_eq_false.mpr fun j hj z => ?_)
      rw [Bool.and_eq_true, decide_eq_true_eq, decide_eq_true_eq] at z
      exact h k hk' ⟨a, j, z.1, List.mem_range.mp hj, z.2⟩
    · exact .inl (List.any_eq_false.mpr fun i hi z => a ⟨i, List.mem_range.mp hi, of_decide_eq_true z⟩)
  · rintro h k hk ⟨⟨i, hi, h1⟩, j, hj, hj2, h2⟩
    have := h k (List.mem_range.mpr hk)
    rw [Bool.not_eq_true', Bool.and_eq_false_iff] at this
    rcases this with z | z
    · exact List.any_eq_false.mp z i (List.mem_range.mpr hi) (decide_eq_true h1)
    · exact List.any_eq_false.mp z j (List.mem_range.mpr hj2) (by rw [Bool.and_eq_true]; exact ⟨decide_eq_true hj, decide_eq_true h2⟩)
def chk (cs : List Nat) : Bool := (Nat.blt (cntN cs) 3) == fewN cs
def sgs : List Nat := [34, 40, 92, 97, 98]
def chkA (a b : Nat) : Bool := sgs.all fun c => sgs.all fun d => chk [a, b, c, d] && sgs.all fun e => chk [a, b, c, d, e]
theorem chk34x34 : chkA 34 34 = true := by decide +kernel
theorem chk34x40 : chkA 34 40 = true := by decide +kernel
theorem chk34x92 : chkA 34 92 = true := by decide +kernel
theorem chk34x97 : chkA 34 97 = true := by decide +kernel
theorem chk34x98 : chkA 34 98 = true := by decide +kernel
theorem chk40x34 : chkA 40 34 = true := by decide +kernel
theorem chk40x40 : chkA 40 40 = true := by decide +kernel
theorem chk40x92 : chkA 40 92 = true := by decide +kernel
theorem chk40x97 : chkA 40 97 = true := by decide +kernel
theorem chk40x98 : chkA 40 98 = true := by decide +kernel
theorem chk92x34 : chkA 92 34 = true := by decide +kernel
theorem chk92x40 : chkA 92 40 = true := by decide +kernel
theorem chk92x92 : chkA 92 92 = true := by decide +kernel
theorem chk92x97 : chkA 92 97 = true := by decide +kernel
theorem chk92x98 : chkA 92 98 = true := by decide +kernel
theorem chk97x34 : chkA 97 34 = true := by decide +kernel
theorem chk97x40 : chkA 97 40 = true := by decide +kernel
theorem chk97x92 : chkA 97 92 = true := by decide +kernel
theorem chk97x97 : chkA 97 97 = true := by decide +kernel
theorem chk97x98 : chkA 97 98 = true := by decide +kernel
theorem chk98x34 : chkA 98 34 = true := by decide +kernel
theorem chk98x40 : chkA 98 40 = true := by decide +kernel
theorem chk98x92 : chkA 98 92 = true := by decide +kernel
theorem chk98x97 : chkA 98 97 = true := by decide +kernel
theorem chk98x98 : chkA 98 98 = true := by decide +kernel
theorem sgs_mem {c : Nat} (h : c = 34 ∨ c = 40 ∨ c = 92 ∨ c = 97 ∨ c = 98) : c ∈ sgs := by
  rcases h with rfl | rfl | rfl | rfl | rfl <;> decide
theorem chk_all (cs : List Nat) (hn : cs.length = 4 ∨ cs.length = 5) (h : ∀ c ∈ cs, c = 34 ∨ c = 40 ∨ c = 92 ∨ c = 97 ∨ c = 98) : chk cs = true := by
  have ha : ∀ a b, (a = 34 ∨ a = 40 ∨ a = 92 ∨ a = 97 ∨ a = 98) → (b = 34 ∨ b = 40 ∨ b = 92 ∨ b = 97 ∨ b = 98) → chkA a b = true := by
    rintro a b (rfl | rfl | rfl | rfl | rfl) (rfl | rfl | rfl | rfl | rfl)
    · exact chk34x34
    · exact chk34x40
    · exact chk34x92
    · exact chk34x97
    · exact chk34x98
    · exact chk40x34
    · exact chk40x40
    · exact chk40x92
    · exact chk40x97
    · exact chk40x98
    · exact chk92x34
    · exact chk92x40
    · exact chk92x92
    · exact chk92x97
    · exact chk92x98
    · exact chk97x34
    · exact chk97x40
    · exact chk97x92
    · exact chk97x97
    · exact chk97x98
    · exact chk98x34
    · exact chk98x40
    · exact chk98x92
    · exact chk98x97
    · exact chk98x98
  match cs, hn, h with
  | [a, b, c, d], _, h =>
    have z := ha a b (h a (by simp)) (h b (by simp))
    unfold chkA at z
    have z := List.all_eq_true.mp z c (sgs_mem (h c (by simp)))
    have z := List.all_eq_true.mp z d (sgs_mem (h d (by simp)))
    exact (Bool.and_eq_true_iff.mp z).1
  | [a, b, c, d, e], _, h =>
    have z := ha a b (h a (by simp)) (h b (by simp))
    unfold chkA at z
    have z := List.all_eq_true.mp z c (sgs_mem (h c (by simp)))
    have z := List.all_eq_true.mp z d (sgs_mem (h d (by simp)))
    exact List.all_eq_true.mp (Bool.and_eq_true_iff.mp z).2 e (sgs_mem (h e (by simp)))
theorem plain_rows' (us : List Str) (hn : us.length = 4 ∨ us.length = 5) (huo : ∀ u ∈ us, unitOk u) : ((rowsS (us.map lastS)).filter (· ≠ [])).length < 3 ↔ fewL (us.map lastS) = [] := by
  rw [map_last huo, cnt_ch, fewN_ch]
  have z := chk_all (us.map keyN) (by simpa using hn) fun c hc => by
    obtain ⟨u, hu, rfl⟩ := List.mem_map.mp hc
    exact key_mem (huo u hu)
  unfold chk at z
  have z := eq_of_beq z
  rw [← z, Nat.blt_eq]
end Mine
end
section
open PySem PySem.W PyProof.Rows PySem.Calls PySem.Spec
namespace Mine
def ofL (l : List Nat) : Str := ⟨l.toArray⟩
theorem ofL_cps (l : List Nat) : (ofL l).cps.toList = l := by simp [ofL]
theorem of_cps (x : Str) : ofL x.cps.toList = x := by
  cases x; simp [ofL]
theorem ofL_inj {a b : List Nat} (h : ofL a = ofL b) : a = b := by
  have := congrArg (fun y : Str => y.cps.toList) h
  simpa [ofL] using this
theorem ofL_app (a b : List Nat) : ofL a ++ ofL b = ofL (a ++ b) := by
  show Str.mk (a.toArray ++ b.toArray) = _
  simp [ofL]
theorem ofL_size (l : List Nat) : (ofL l).cps.size = l.length := by simp [ofL]
theorem quo_ofL : quoS = ofL [34] := quo
def tokOk (t : List Nat) : Prop := (∃ c, t = [92, c]) ∨ ∃ c, c ≠ 92 ∧ t = [c]
def posT : Nat → List (List Nat) → List (Nat × Str)
  | _, [] => []
  | p, t :: ts => (p + t.length - 1, ofL t) :: posT (p + t.length) ts
theorem esc_tok : ∀ (ts : List (List Nat)), (∀ t ∈ ts, tokOk t) → ∀ p l, escI ts.flatten p false l = posT p ts
  | [], _, _, _ => rfl
  | t :: ts, h, p, l => by
    have ih := esc_tok ts fun u hu => h u (.tail _ hu)
    rcases h t (.head _) with ⟨c, rfl⟩ | ⟨c, hc, rfl⟩
    · show escI (92 :: c :: ts.flatten) p false l = _
      simp only [escI, if_true]
      rw [ih]; rfl
    · show escI (c :: ts.flatten) p false l = _
      simp only [escI, if_neg hc]
      rw [ih]; rfl
theorem pos_app : ∀ (ts us : List (List Nat)) (p : Nat), posT p (ts ++ us) = posT p ts ++ posT (p + ts.flatten.length) us
  | [], us, p => by simp [posT]
  | t :: ts, us, p => by
    rw [List.cons_append, posT, posT, pos_app ts us]
    simp [Nat.add_assoc]
theorem sg_run (x : Str) : ∀ (ts : List (List Nat)), (∀ t ∈ ts, t ≠ [34]) → ∀ p rest st op r, stripGo x (posT p ts ++ rest) st op r = stripGo x rest st op r
  | [], _, _, _, _, _, _ => rfl
  | t :: ts, h, p, rest, st, op, r => by
    have hne : ofL t ≠ (⟨#[34]⟩ : Str) := fun e => h t (.head _) (ofL_inj (show ofL t = ofL [34] from e))
    show (if ofL t = (⟨#[34]⟩ : Str) then _ else _) = _
    rw [if_neg hne]
    exact sg_run x ts (fun u hu => h u (.tail _ hu)) _ rest st op r
def tj : List (List (List Nat)) → List (List Nat)
  | [] => []
  | [a] => a
  | a :: b :: r => a ++ [34] :: tj (b :: r)
def es : List (List (List Nat)) → List (List Nat)
  | [] => []
  | [a] => a
  | [a, b] => a ++ [34] :: b
  | a :: _ :: c :: r => a ++ es (c :: r)
def outL (x : Str) (res : Nat × List Str) : List Nat := ((res.2 ++ (if res.1 < x.cps.size then [cutE x res.1] else [])).map (·.cps.toList)).flatten
theorem cutE_eq (x : Str) (st : Nat) (h : st ≤ x.cps.toList.length) : (cutE x st).cps.toList = x.cps.toList.drop st := by
  have := eq_of_beq (slice_closes_from (x := x) (i := (st : Int)) ⟨by omega, by omega⟩)
  unfold cutE
  rw [this]
  simp
  try rw [List.take_of_length_le (by simp)]
theorem cut_eq (x : Str) (a b : Nat) (h : a ≤ b) (hb : b ≤ x.cps.toList.length) : (cut x a b).cps.toList = (x.cps.toList.drop a).take (b - a) := by
  have := eq_of_beq (slice_closes (x := x) (i := (a : Int)) (j := (b : Int)) ⟨by omega, by omega, by omega⟩)
  unfold cut
  rw [this]
  simp
theorem out_end (x : Str) (p : Nat) (r : List Str) (pre l : List Nat) (hx : x.cps.toList = pre ++ l) (hp : p = pre.length) : outL x (p, r) = (r.map (·.cps.toList)).flatten ++ l := by
  have hlen : x.cps.size = pre.length + l.length := by rw [← Array.length_toList, hx, List.length_append]
  unfold outL
  by_cases q : p < x.cps.size
  · rw [if_pos q, List.map_append, List.flatten_append]
    congr 1
    simp only [List.map_cons, List.map_nil, List.flatten_cons, List.flatten_nil, List.append_nil]
    rw [cutE_eq x p (by rw [hx, List.length_append]; omega), hx, hp]
    simp
  · rw [if_neg q, List.append_nil]
    have : l = [] := List.eq_nil_of_length_eq_zero (by omega)
    rw [this, List.append_nil]
theorem strip_core (x : Str) : ∀ (runs : List (List (List Nat))), runs ≠ [] → (∀ a ∈ runs, ∀ t ∈ a, t ≠ [34]) → ∀ (pre : List Nat) (r : List Str), x.cps.toList = pre ++ (tj runs).flatten →
    outL x (stripGo x (posT pre.length (tj runs)) pre.length none r) = (r.map (·.cps.toList)).flatten ++ (es runs).flatten
  | [], h, _, _, _, _ => absurd rfl h
  | [a], _, h, pre, r, hx => by
    have := sg_run x a (h a (.head _)) pre.length [] pre.length none r
    rw [List.append_nil] at this
    show outL x (stripGo x (posT pre.length a) pre.length none r) = _
    rw [this]
    exact out_end x _ r pre _ hx rfl
  | [a, b], _, h, pre, r, hx => by
    show outL x (stripGo x (posT pre.length (a ++ [34] :: b)) pre.length none r) = _
    have hq : ofL [34] = (⟨#[34]⟩ : Str) := rfl
    rw [pos_app, sg_run x a (h a (.head _)), posT, stripGo, if_pos hq]
    have := sg_run x b (h b (.tail _ (.head _))) (pre.length + a.flatten.length + 1) [] pre.length (some (pre.length + a.flatten.length + 1 - 1)) r
    rw [List.append_nil] at this
    show outL x (stripGo x (posT (pre.length + a.flatten.length + 1) b) pre.length (some (pre.length + a.flatten.length + 1 - 1)) r) = _
    rw [this]
    exact out_end x _ r pre _ hx rfl
  | a :: b :: c :: rs, _, h, pre, r, hx => by
    have hq : ofL [34] = (⟨#[34]⟩ : Str) := rfl
    have htj : tj (a :: b :: c :: rs) = a ++ [34] :: (b ++ [34] :: tj (c :: rs)) := rfl
    rw [htj] at hx ⊢
    have hx2 : x.cps.toList = (pre ++ a.flatten ++ [34] ++ b.flatten ++ [34]) ++ (tj (c :: rs)).flatten := by
      rw [hx]; simp
    have hpl : (pre ++ a.flatten ++ [34] ++ b.flatten ++ [34]).length = pre.length + a.flatten.length + 1 + b.flatten.length + 1 := by simp only [List.length_append, List.length_singleton]
    rw [pos_app, sg_run x a (h a (.head _)), posT, stripGo, if_pos hq]
    show outL x (stripGo x (posT (pre.length + a.flatten.length + 1) (b ++ [34] :: tj (c :: rs))) pre.length (some (pre.length + a.flatten.length)) r) = _
    rw [pos_app, sg_run x b (h b (.tail _ (.head _))), posT, stripGo, if_pos hq]
    show outL x (stripGo x (posT (pre.length + a.flatten.length + 1 + b.flatten.length + 1) (tj (c :: rs))) (pre.length + a.flatten.length + 1 + b.flatten.length + 1) none (if pre.length ≠ pre.length + a.flatten.length then r ++ [cut x pre.length (pre.length + a.flatten.length)] else r)) = _
    rw [← hpl]
    rw [strip_core x (c :: rs) nofun (fun d hd => h d (.tail _ (.tail _ hd))) _ _ hx2]
    have hes : es (a :: b :: c :: rs) = a ++ es (c :: rs) := by cases rs <;> rfl
    rw [hes, List.flatten_append, ← List.append_assoc]
    congr 1
    by_cases q : pre.length ≠ pre.length + a.flatten.length
    · rw [if_pos q, List.map_append, List.flatten_append]
      congr 1
      simp only [List.map_cons, List.map_nil, List.flatten_cons, List.flatten_nil, List.append_nil]
      rw [cut_eq x _ _ (by omega) (by rw [hx]; simp), hx]
      simp
    · rw [if_neg q]
      have : a.flatten = [] := List.eq_nil_of_length_eq_zero (by omega)
      rw [this, List.append_nil]
theorem join_empty : ∀ (l : List Str), (Txt.join (Str.ofString "") l).cps.toList = (l.map (·.cps.toList)).flatten := by
  intro l
  show (Builtin.Str.glued (Str.ofString "") l).cps.toList = _
  rw [StrLaws.glued_eq_join]
  have he : Str.ofString "" = ofL [] := by decide +kernel
  rw [he]
  induction l with
  | nil => rfl
  | cons a l ih =>
    cases l with
    | nil => simp [Str.join]
    | cons b l =>
      show (a ++ ofL [] ++ Str.join (ofL []) (b :: l)).cps.toList = _
      rw [List.map_cons, List.flatten_cons, ← ih]
      show (a.cps ++ (ofL []).cps ++ (Str.join (ofL []) (b :: l)).cps).toList = _
      simp [ofL]
theorem strip_runs (runs : List (List (List Nat))) (hne : runs ≠ []) (hok : ∀ a ∈ runs, ∀ t ∈ a, tokOk t ∧ t ≠ [34]) : stripS (ofL (tj runs).flatten) = ofL (es runs).flatten := by
  have htok : ∀ (rs : List (List (List Nat))), (∀ a ∈ rs, ∀ t ∈ a, tokOk t) → ∀ t ∈ tj rs, tokOk t := by
    intro rs
    induction rs with
    | nil => intro _ t ht; cases ht
    | cons a rs ih =>
      intro h t ht
      cases rs with
      | nil => exact h a (.head _) t ht
      | cons b rs =>
        rcases List.mem_append.mp ht with z | z
        · exact h a (.head _) t z
        · rcases List.mem_cons.mp z with rfl | z
          · exact .inr ⟨34, by decide, rfl⟩
          · exact ih (fun d hd => h d (.tail _ hd)) t z
  have hq : hasQ (ofL (tj runs).flatten) = decide (34 ∈ (tj runs).flatten) := by
    unfold hasQ
    rw [quo, StrLaws.found_one, ofL_cps]
  unfold stripS
  rw [hq]
  by_cases q : 34 ∈ (tj runs).flatten
  · rw [decide_eq_true q, if_pos rfl]
    rw [← of_cps (Txt.join _ _)]
    congr 1
    rw [join_empty, ofL_cps, esc_tok _ (htok runs fun a ha t ht => (hok a ha t ht).1)]
    have := strip_core (ofL (tj runs).flatten) runs hne (fun a ha t ht => (hok a ha t ht).2) [] [] (by rw [ofL_cps]; rfl)
    unfold outL at this
    simpa using this
  · rw [decide_eq_false q, if_neg (by decide)]
    match runs, hne with
    | [a], _ => rfl
    | a :: b :: rs, _ => exact absurd (by simp [tj]) q
end Mine
end
section
open PySem PySem.W PyProof.Rows PySem.Calls PySem.Spec
namespace Mine
def runsT : List (List Nat × Int) → List (List (List Nat)) → List (List Nat) → Int → List (List (List Nat)) × List (List Nat) × Int
  | [], init, last, b => (init, last, b)
  | (t, d) :: r, init, last, b => if d = b then runsT r init (last ++ [t]) d else runsT r (init ++ [last]) [t] d
def runS (ts : List (List Nat)) : Str := ofL ts.flatten
theorem runs_map : ∀ (l : List (List Nat × Int)) (init : List (List (List Nat))) (last : List (List Nat)) (b : Int),
    runsGo (l.map fun q => (ofL q.1, q.2)) (init.map runS) (runS last) b = ((runsT l init last b).1.map runS, runS (runsT l init last b).2.1, (runsT l init last b).2.2)
  | [], _, _, _ => rfl
  | (t, d) :: r, init, last, b => by
    show (if d = b then runsGo (r.map fun q => (ofL q.1, q.2)) (init.map runS) (runS last ++ ofL t) d else runsGo (r.map fun q => (ofL q.1, q.2)) (init.map runS ++ [runS last]) (Str.empty ++ ofL t) d) = _
    unfold runsT
    by_cases h : d = b
    · rw [if_pos h, if_pos h]
      have : runS last ++ ofL t = runS (last ++ [t]) := by unfold runS; rw [ofL_app]; simp
      rw [this]
      exact runs_map r init _ d
    · rw [if_neg h, if_neg h]
      have : Str.empty ++ ofL t = runS [t] := by rw [empty_app]; unfold runS; simp
      rw [this]
      have h2 : init.map runS ++ [runS last] = (init ++ [last]).map runS := by simp
      rw [h2]
      exact runs_map r _ _ d
theorem join_runs : ∀ (runs : List (List (List Nat))), (Str.join (ofL [34]) (runs.map runS)) = ofL (tj runs).flatten
  | [] => rfl
  | [a] => rfl
  | a :: b :: r => by
    show runS a ++ ofL [34] ++ Str.join (ofL [34]) ((b :: r).map runS) = _
    rw [join_runs (b :: r)]
    unfold runS
    rw [ofL_app, ofL_app]
    simp [tj]
def ev : List (List (List Nat)) → List (List Nat)
  | [] => []
  | [a] => a
  | a :: _ :: r => a ++ ev r
theorem ev_snoc : ∀ (i : List (List (List Nat))) (x : List (List Nat)), ev (i ++ [x]) = if i.length % 2 = 0 then ev i ++ x else ev i
  | [], x => rfl
  | [a], x => by simp [ev]
  | a :: b :: r, x => by
    show a ++ ev (r ++ [x]) = _
    rw [ev_snoc r x]
    have : (a :: b :: r).length % 2 = r.length % 2 := by simp only [List.length_cons]; omega
    rw [this]
    by_cases h : r.length % 2 = 0
    · rw [if_pos h, if_pos h]; simp [ev]
    · rw [if_neg h, if_neg h]; rfl
theorem es_odd : ∀ (r : List (List (List Nat))), r.length % 2 = 1 → es r = ev r
  | [], h => by simp at h
  | [a], _ => rfl
  | [a, b], h => by simp at h
  | a :: b :: c :: r, h => by
    show a ++ es (c :: r) = a ++ ev (c :: r)
    rw [es_odd (c :: r) (by simp only [List.length_cons] at h ⊢; omega)]
theorem es_evn : ∀ (i : List (List (List Nat))) (x : List (List Nat)), i.length % 2 = 1 → es (i ++ [x]) = ev i ++ [34] :: x
  | [], _, h => by simp at h
  | [a], _, _ => rfl
  | [a, b], _, h => by simp at h
  | a :: b :: c :: r, x, h => by
    show a ++ es ((c :: r) ++ [x]) = a ++ ev (c :: r) ++ _
    rw [es_evn (c :: r) x (by simp only [List.length_cons] at h ⊢; omega), List.append_assoc]
theorem tj_nil : ∀ (r : List (List (List Nat))), r ≠ [] → tj (r ++ [[]]) = tj r ++ [[34]]
  | [], h => absurd rfl h
  | [a], _ => rfl
  | a :: b :: r, _ => by
    show a ++ [34] :: tj ((b :: r) ++ [[]]) = a ++ [34] :: tj (b :: r) ++ _
    rw [tj_nil (b :: r) nofun]; simp
def wt (w : Int) (l : List (List Nat × Int)) : List (List Nat) := (l.filter fun q => decide (q.2 = w)).map (·.1)
theorem runs_inv (w : Int) (hw : w = 0 ∨ w = 1) : ∀ (l : List (List Nat × Int)), (∀ q ∈ l, q.2 = 0 ∨ q.2 = 1) → ∀ (init : List (List (List Nat))) (last : List (List Nat)) (b : Int), (b = 0 ∨ b = 1) → (b = w ↔ init.length % 2 = 0) →
    ((runsT l init last b).2.2 = w ↔ (runsT l init last b).1.length % 2 = 0) ∧ ev ((runsT l init last b).1 ++ [(runsT l init last b).2.1]) = ev (init ++ [last]) ++ wt w l ∧ (runsT l init last b).1.length ≤ init.length + l.length ∧
    ((runsT l init last b).1 ++ [(runsT l init last b).2.1]).flatten = (init ++ [last]).flatten ++ l.map (·.1)
  | [], _, init, last, b, _, hp => ⟨hp, by simp [runsT, wt], by simp [runsT], by simp [runsT]⟩
  | (t, d) :: r, hl, init, last, b, hb, hp => by
    have hd : d = 0 ∨ d = 1 := hl (t, d) (.head _)
    have hr : ∀ q ∈ r, q.2 = 0 ∨ q.2 = 1 := fun q hq => hl q (.tail _ hq)
    unfold runsT
    by_cases h : d = b
    · rw [if_pos h]
      obtain ⟨h1, h2, h3, h4⟩ := runs_inv w hw r hr init (last ++ [t]) d hd (by rw [h]; exact hp)
      refine ⟨h1, ?_, by simp only [List.length_cons]; omega, ?_⟩
      · rw [h2, ev_snoc, ev_snoc]
        by_cases e : init.length % 2 = 0
        · have : d = w := by rw [h]; exact hp.mpr e
          rw [if_pos e, if_pos e]; simp [wt, this]
        · have : ¬ d = w := fun z => e (hp.mp (h ▸ z))
          rw [if_neg e, if_neg e]; simp [wt, this]
      · rw [h4]; simp
    · rw [if_neg h]
      have hp2 : d = w ↔ (init ++ [last]).length % 2 = 0 := by
        simp only [List.length_append, List.length_singleton]
        by_cases e : init.length % 2 = 0
        · have := hp.mpr e
          constructor
          · intro z; exact absurd (z.trans this.symm) h
          · intro z; omega
        · have : ¬ b = w := fun z => e (hp.mp z)
          constructor
          · intro _; omega
          · intro _; omega
      obtain ⟨h1, h2, h3, h4⟩ := runs_inv w hw r hr (init ++ [last]) [t] d hd hp2
      refine ⟨h1, ?_, by simp only [List.length_cons, List.length_append, List.length_nil] at h3 ⊢; omega, ?_⟩
      · rw [h2, ev_snoc (init ++ [last])]
        by_cases e : (init ++ [last]).length % 2 = 0
        · have : d = w := hp2.mpr e
          rw [if_pos e]; simp [wt, this]
        · have : ¬ d = w := fun z => e (hp2.mp z)
          rw [if_neg e]; simp [wt, this]
      · rw [h4]; simp
theorem tj_bound : ∀ (r : List (List (List Nat))), (∀ a ∈ r, ∀ t ∈ a, ∀ c ∈ t, c < 128) → (tj r).flatten.length ≤ r.flatten.flatten.length + r.length ∧ ∀ c ∈ (tj r).flatten, c < 128
  | [], _ => ⟨by simp [tj], by simp [tj]⟩
  | [a], h => ⟨by simp [tj], fun c hc => by
      obtain ⟨t, ht, hct⟩ := List.mem_flatten.mp hc
      exact h a (.head _) t ht c hct⟩
  | a :: b :: r, h => by
    obtain ⟨h1, h2⟩ := tj_bound (b :: r) fun x hx => h x (.tail _ hx)
    have e : (tj (a :: b :: r)).flatten = a.flatten ++ 34 :: (tj (b :: r)).flatten := by simp [tj]
    rw [e]
    constructor
    · rw [List.length_append, List.length_cons, List.flatten_cons, List.flatten_append, List.length_append, List.length_cons]
      omega
    · intro c hc
      rcases List.mem_append.mp hc with z | z
      · obtain ⟨t, ht, hct⟩ := List.mem_flatten.mp z
        exact h a (.head _) t ht c hct
      · rcases List.mem_cons.mp z with rfl | z
        · decide
        · exact h2 c z
theorem sel_zip (w : Int) : ∀ (ts : List (List Nat)) (sd : List Int), sd.length = ts.length → selS (ts.map ofL) (fun i => decide (sd.getD i 0 = w)) ts.length = (wt w (ts.zip sd)).map ofL
  | [], [], _ => rfl
  | t :: ts, d :: sd, h => by
    have ih := sel_zip w ts sd (by simpa using h)
    unfold selS at ih ⊢
    rw [List.length_cons, List.range_succ_eq_map, List.filter_cons, List.filter_map]
    have e : (List.map (fun x => (List.map ofL (t :: ts)).getD x default) (List.map Nat.succ (List.filter ((fun i => decide ((d :: sd).getD i 0 = w)) ∘ Nat.succ) (List.range ts.length)))) = (wt w (ts.zip sd)).map ofL := by
      rw [← ih, List.map_map]; rfl
    by_cases q : d = w
    · have : decide ((d :: sd).getD 0 0 = w) = true := decide_eq_true q
      rw [if_pos this, List.map_cons, e]
      simp [wt, q]
    · have : ¬ decide ((d :: sd).getD 0 0 = w) = true := fun z => q (of_decide_eq_true z)
      rw [if_neg this, e]
      simp [wt, q]
theorem pos_snd : ∀ (ts : List (List Nat)) (p : Nat), (posT p ts).map (·.2) = ts.map ofL
  | [], _ => rfl
  | t :: ts, p => by rw [posT, List.map_cons, pos_snd ts]; rfl
end Mine
end
section
open PySem PySem.W PyProof.Rows PySem.Calls PySem.Spec
namespace Mine
theorem seq_nat {i n : Nat} (h : i < n) : seqIndex? (i : Int) n = some i := by
  simp [seqIndex?]
  omega
theorem item_mid (pre : List Nat) (c : Nat) (suf : List Nat) : Txt.item (ofL (pre ++ c :: suf)) ((pre.length : Nat) : Int) = ⟨#[c]⟩ := by
  unfold Txt.item Txt.charAt
  have hl : pre.length < (ofL (pre ++ c :: suf)).length := by
    show pre.length < (ofL (pre ++ c :: suf)).cps.size
    rw [ofL_size]; simp
  rw [seq_nat hl]
  have : (ofL (pre ++ c :: suf)).cps[pre.length]? = some c := by
    simp [ofL]
  show Str.mk #[((ofL (pre ++ c :: suf)).cps[pre.length]?).getD 0] = _
  rw [this]; rfl
theorem last_one (c : Nat) : lastS (ofL [c]) = ⟨#[c]⟩ := by
  unfold lastS Txt.item Txt.charAt
  have : seqIndex? (-1) (ofL [c]).length = some 0 := by
    show seqIndex? (-1) 1 = some 0
    decide +kernel
  rw [this]; rfl
theorem last_two (c : Nat) : lastS (ofL [92, c]) = ⟨#[c]⟩ := by
  unfold lastS Txt.item Txt.charAt
  have : seqIndex? (-1) (ofL [92, c]).length = some 1 := by
    show seqIndex? (-1) 2 = some 1
    decide +kernel
  rw [this]; rfl
theorem pos_ok : ∀ (ts : List (List Nat)), (∀ t ∈ ts, tokOk t) → ∀ (pre : List Nat), ∀ q ∈ posT pre.length ts, (Txt.item (ofL (pre ++ ts.flatten)) (q.1 : Nat) == lastS q.2) = true
  | [], _, _, _, hq => nomatch hq
  | t :: ts, h, pre, q, hq => by
    have hs : ∀ u ∈ ts, tokOk u := fun u hu => h u (.tail _ hu)
    have hrest : pre ++ (t :: ts).flatten = (pre ++ t) ++ ts.flatten := by simp
    rcases List.mem_cons.mp hq with rfl | z
    · rcases h t (.head _) with ⟨c, rfl⟩ | ⟨c, hc, rfl⟩
      · show (Txt.item _ ((pre.length + 1 : Nat) : Int) == lastS (ofL [92, c])) = true
        have : pre ++ ([92, c] :: ts).flatten = (pre ++ [92]) ++ c :: ts.flatten := by simp
        rw [this, last_two]
        have hi := item_mid (pre ++ [92]) c ts.flatten
        rw [List.length_append, List.length_singleton] at hi
        rw [hi]
        exact beq_self_eq_true _
      · show (Txt.item _ ((pre.length : Nat) : Int) == lastS (ofL [c])) = true
        have : pre ++ ([c] :: ts).flatten = pre ++ c :: ts.flatten := by simp
        rw [this, last_one, item_mid]
        exact beq_self_eq_true _
    · rw [hrest]
      refine pos_ok ts hs (pre ++ t) q ?_
      rw [List.length_append]; exact z
theorem hand_tok (E : List (List Nat)) (h : ∀ t ∈ E, tokOk t) : handL (ofL E.flatten) = E.map ofL := by
  unfold handL
  rw [ofL_cps, esc_tok E h 0 0]
  rw [List.filter_eq_self.mpr fun q hq => by
    have := pos_ok E h [] q hq
    simpa using this]
  exact pos_snd E 0
theorem unit_tok {u : Str} (h : unitOk u) : tokOk u.cps.toList ∧ u.cps.toList ≠ [34] ∧ (∀ c ∈ u.cps.toList, c < 128) ∧ u.cps.toList.length ≤ 2 := by
  obtain ⟨c, ⟨rfl, h⟩ | ⟨rfl, h⟩⟩ := h
  · refine ⟨.inl ⟨c, rfl⟩, by simp, ?_, by simp⟩
    intro d hd
    rcases List.mem_cons.mp hd with rfl | hd
    · decide
    · rcases List.mem_cons.mp hd with rfl | hd
      · omega
      · cases hd
  · refine ⟨.inr ⟨c, by omega, rfl⟩, ?_, ?_, by simp⟩
    · intro e
      have : c = 34 := by simpa using e
      omega
    · intro d hd
      rcases List.mem_cons.mp hd with rfl | hd
      · omega
      · cases hd
theorem all_lt (l : List Nat) (h : ∀ c ∈ l, c < 128) : (ofL l).cps.all (· < 128) = true := by
  unfold ofL
  rw [List.all_toArray, List.all_eq_true]
  exact fun c hc => decide_eq_true (h c hc)
theorem flat_len : ∀ (l : List (List Nat)), (∀ t ∈ l, t.length ≤ 2) → l.flatten.length ≤ 2 * l.length
  | [], _ => by simp
  | t :: l, h => by
    have h1 := flat_len l fun u hu => h u (.tail _ hu)
    have h2 := h t (.head _)
    rw [List.flatten_cons, List.length_append, List.length_cons]; omega
theorem quo_join (l : List Str) : Txt.join quoS l = Str.join (ofL [34]) l := by
  rw [quo_ofL]
  exact StrLaws.glued_eq_join _ l
theorem wt_mem {w : Int} {l : List (List Nat × Int)} {t : List Nat} (h : t ∈ wt w l) : t ∈ l.map (·.1) := by
  unfold wt at h
  obtain ⟨q, hq, rfl⟩ := List.mem_map.mp h
  exact List.mem_map_of_mem (List.mem_filter.mp hq).1
theorem plain_text' (us : List Str) (sides : List Int) (wished : Int) (hn : us.length = 4 ∨ us.length = 5) (huo : ∀ u ∈ us, unitOk u) (hs : SidesOk us sides) (hw : wished = 0 ∨ wished = 1) :
  (textS us sides wished).cps.all (· < 128) = true ∧ (textS us sides wished).cps.size ≤ 40 ∧ (leftS us sides wished).cps.all (· < 128) = true ∧ (leftS us sides wished).cps.size ≤ 60 ∧ ¬ badS us sides wished ∧ handL (leftS us sides wished) = sideOf us sides wished := by
  obtain ⟨ts, hts⟩ : ∃ ts, ts = us.map (·.cps.toList) := ⟨_, rfl⟩
  have hus : us = ts.map ofL := by
    rw [hts, List.map_map]
    conv => lhs; rw [← List.map_id us]
    exact List.map_congr_left fun u _ => (of_cps u).symm
  have hlen : ts.length = us.length := by rw [hts, List.length_map]
  have htok : ∀ t ∈ ts, tokOk t ∧ t ≠ [34] ∧ (∀ c ∈ t, c < 128) ∧ t.length ≤ 2 := by
    intro t ht
    rw [hts] at ht
    obtain ⟨u, hu, rfl⟩ := List.mem_map.mp ht
    exact unit_tok (huo u hu)
  have hl2 : sides.length = ts.length := by rw [hlen]; exact hs.len
  obtain ⟨l, hl⟩ : ∃ l, l = ts.zip sides := ⟨_, rfl⟩
  have hl1 : l.map (·.1) = ts := by rw [hl]; exact List.map_fst_zip (by omega)
  have hll : l.length = ts.length := by rw [← hl1, List.length_map]
  have hz : us.zip sides = l.map fun q => (ofL q.1, q.2) := by
    rw [hus, hl, List.zip_map_left]; rfl
  have hbit : ∀ q ∈ l, q.2 = 0 ∨ q.2 = 1 := by
    intro q hq
    rw [hl] at hq
    exact hs.bits _ (List.of_mem_zip hq).2
  obtain ⟨h1, h2, h3, h4⟩ := runs_inv wished hw l hbit [] [] wished hw (by simp)
  have hm := runs_map l [] [] wished
  obtain ⟨R, hR⟩ : ∃ R, R = runsT l [] [] wished := ⟨_, rfl⟩
  rw [← hR] at h1 h2 h3 h4 hm
  have hgo : runsGo (us.zip sides) [] Str.empty wished = (R.1.map runS, runS R.2.1, R.2.2) := by
    rw [hz]; exact hm
  obtain ⟨I, La, B⟩ := R
  have e2 : ev (I ++ [La]) = wt wished l := by rw [h2]; rfl
  have e4 : (I ++ [La]).flatten = ts := by
    have : (I ++ [La]).flatten = l.map (·.1) := by rw [h4]; rfl
    rw [this, hl1]
  have hI : I.length ≤ 5 := by
    have : I.length ≤ 0 + l.length := h3
    omega
  have hin : ∀ a ∈ I ++ [La], ∀ t ∈ a, t ∈ ts := fun a ha t ht => by
    rw [← e4]; exact List.mem_flatten.mpr ⟨a, ha, ht⟩
  have hts2 : textS us sides wished = ofL (tj (I ++ [La])).flatten := by
    unfold textS
    rw [hgo]
    show Txt.join quoS (I.map runS ++ [runS La]) = _
    have : I.map runS ++ [runS La] = (I ++ [La]).map runS := by simp
    rw [this, quo_join, join_runs]
  have hRne : I ++ [La] ≠ [] := by simp
  have hst := strip_runs (I ++ [La]) hRne fun a ha t ht => ⟨(htok t (hin a ha t ht)).1, (htok t (hin a ha t ht)).2.1⟩
  have hside : lastSide us sides wished = B := by unfold lastSide; rw [hgo]
  have hrun : lastRun us sides wished = ofL La.flatten := by unfold lastRun; rw [hgo]; rfl
  have hwm : ∀ t ∈ wt wished l, t ∈ ts := fun t ht => by rw [← hl1]; exact wt_mem ht
  have hwl : (wt wished l).length ≤ 5 := by
    have : (wt wished l).length ≤ l.length := by
      unfold wt; rw [List.length_map]; exact List.length_filter_le _ _
    omega
  have hleft : leftS us sides wished = ofL (wt wished l).flatten := by
    unfold leftS
    rw [hside]
    by_cases q : B = wished
    · rw [if_pos q, hts2, hst]
      have hp : I.length % 2 = 0 := h1.mp q
      rw [es_odd _ (by rw [List.length_append, List.length_singleton]; omega), e2]
    · rw [if_neg q, hts2, quo_ofL, ofL_app]
      have hp : ¬ I.length % 2 = 0 := fun z => q (h1.mpr z)
      have hx : (tj (I ++ [La])).flatten ++ [34] = (tj ((I ++ [La]) ++ [[]])).flatten := by
        rw [tj_nil _ hRne]; simp
      rw [hx]
      rw [strip_runs ((I ++ [La]) ++ [[]]) (by simp) fun a ha t ht => by
        rcases List.mem_append.mp ha with z | z
        · exact ⟨(htok t (hin a z t ht)).1, (htok t (hin a z t ht)).2.1⟩
        · rcases List.mem_cons.mp z with rfl | z
          · cases ht
          · cases z]
      have hp2 : (I ++ [La]).length % 2 = 0 := by rw [List.length_append, List.length_singleton]; omega
      rw [es_odd _ (by rw [List.length_append, List.length_singleton]; omega), ev_snoc (I ++ [La]) [], if_pos hp2, e2, List.append_nil]
  have hb := tj_bound (I ++ [La]) fun a ha t ht => (htok t (hin a ha t ht)).2.2.1
  have hfl := flat_len ts fun t ht => (htok t ht).2.2.2
  have hfw := flat_len (wt wished l) fun t ht => (htok t (hwm t ht)).2.2.2
  refine ⟨?_, ?_, ?_, ?_, ?_, ?_⟩
  · rw [hts2]; exact all_lt _ hb.2
  · rw [hts2, ofL_size]
    have := hb.1
    rw [e4, List.length_append, List.length_singleton] at this
    omega
  · rw [hleft]
    refine all_lt _ fun c hc => ?_
    obtain ⟨t, ht, hct⟩ := List.mem_flatten.mp hc
    exact (htok t (hwm t ht)).2.2.1 c hct
  · rw [hleft, ofL_size]; omega
  · rintro ⟨hb1, hb2⟩
    rw [hside] at hb1
    have hp : ¬ I.length % 2 = 0 := fun z => hb1 (h1.mpr z)
    refine hb2 ?_
    rw [hleft, hts2, hst, hrun, quo_ofL, ofL_app, ofL_app, es_evn I La (by omega)]
    rw [← e2, ev_snoc I La, if_neg hp]
    simp
  · rw [hleft, hand_tok _ fun t ht => (htok t (hwm t ht)).1]
    unfold sideOf
    rw [hus, List.length_map, sel_zip wished ts sides hl2, hl]
end Mine
end
section
namespace Mine
theorem plain_rows : type_of% @plain_rows' := plain_rows'
theorem plain_text : type_of% @plain_text' := plain_text'
theorem plain_rise : type_of% @plain_rise' := plain_rise'
end Mine
end
section
namespace Mine
theorem fc {α : Type} {P : α → Prop} {a : α} {l : List α} (h : P a) (t : ∀ p ∈ l, P p) : ∀ p ∈ a :: l, P p := List.forall_mem_cons.mpr ⟨h, t⟩
theorem fn {α : Type} {P : α → Prop} : ∀ p ∈ ([] : List α), P p := fun _ h => nomatch h
theorem fap {α : Type} {P : α → Prop} {l r : List α} (h : ∀ p ∈ l, P p) (t : ∀ p ∈ r, P p) : ∀ p ∈ l ++ r, P p := fun p hp => (List.mem_append.mp hp).elim (h p) (t p)
section
variable {α : Type} {a c d e f l l' s t u w y T : α} {x x2 o o2 R F : List α} {P : α → Prop}
theorem pm1 : ∀ p ∈ y :: (t :: ([] ++ (c :: [d, u, a]))), p ∈ [l, l', e, d, u, c, y, a, t] := fc (.tail _ (.tail _ (.tail _ (.tail _ (.tail _ (.tail _ (.head _))))))) (fc (.tail _ (.tail _ (.tail _ (.tail _ (.tail _ (.tail _ (.tail _ (.tail _ (.head _))))))))) (fap (fn) (fc (.tail _ (.tail _ (.tail _ (.tail _ (.tail _ (.head _)))))) (fc (.tail _ (.tail _ (.tail _ (.head _)))) (fc (.tail _ (.tail _ (.tail _ (.tail _ (.head _))))) (fc (.tail _ (.tail _ (.tail _ (.tail _ (.tail _ (.tail _ (.tail _ (.head _)))))))) (fn)))))))
theorem pm3 : ∀ p ∈ w :: y :: a :: d :: u :: t :: (x ++ o), p ∈ y :: ((t :: (x ++ (w :: [d, u, a]))) ++ o) := fc (.tail _ (List.mem_append_left _ (.tail _ (List.mem_append_right _ (.head _))))) (fc (.head _) (fc (.tail _ (List.mem_append_left _ (.tail _ (List.mem_append_right _ (.tail _ (.tail _ (.tail _ (.head _)))))))) (fc (.tail _ (List.mem_append_left _ (.tail _ (List.mem_append_right _ (.tail _ (.head _)))))) (fc (.tail _ (List.mem_append_left _ (.tail _ (List.mem_append_right _ (.tail _ (.tail _ (.head _))))))) (fc (.tail _ (List.mem_append_left _ (.head _))) (fap (fun _ h => .tail _ (List.mem_append_left _ (.tail _ (List.mem_append_left _ (h))))) (fun _ h => .tail _ (List.mem_append_right _ (h)))))))))
theorem pm4 (hF : F = T :: s :: y :: a :: d :: u :: (x ++ o)) : ∀ p ∈ w :: (t :: ([] ++ F)), p ∈ T :: s :: e :: f :: w :: y :: a :: d :: u :: t :: (x ++ o) := by
  subst hF
  exact fc (.tail _ (.tail _ (.tail _ (.tail _ (.head _))))) (fc (.tail _ (.tail _ (.tail _ (.tail _ (.tail _ (.tail _ (.tail _ (.tail _ (.tail _ (.head _)))))))))) (fap (fn) (fc (.head _) (fc (.tail _ (.head _)) (fc (.tail _ (.tail _ (.tail _ (.tail _ (.tail _ (.head _)))))) (fc (.tail _ (.tail _ (.tail _ (.tail _ (.tail _ (.tail _ (.head _))))))) (fc (.tail _ (.tail _ (.tail _ (.tail _ (.tail _ (.tail _ (.tail _ (.head _)))))))) (fc (.tail _ (.tail _ (.tail _ (.tail _ (.tail _ (.tail _ (.tail _ (.tail _ (.head _))))))))) (fap (fun _ h => .tail _ (.tail _ (.tail _ (.tail _ (.tail _ (.tail _ (.tail _ (.tail _ (.tail _ (.tail _ (List.mem_append_left _ (h)))))))))))) (fun _ h => .tail _ (.tail _ (.tail _ (.tail _ (.tail _ (.tail _ (.tail _ (.tail _ (.tail _ (.tail _ (List.mem_append_right _ (h)))))))))))))))))))))
theorem pm6 (hR : R = T :: (x2 ++ (x ++ o) ++ o2)) (hF : F = T :: s :: y :: a :: d :: u :: (x ++ o)) : ∀ p ∈ w :: y :: a :: u :: s :: d :: t :: R, p ∈ w :: ((t :: (x2 ++ F)) ++ o2) := by
  subst hF hR
  exact fc (.head _) (fc (.tail _ (List.mem_append_left _ (.tail _ (List.mem_append_right _ (.tail _ (.tail _ (.head _))))))) (fc (.tail _ (List.mem_append_left _ (.tail _ (List.mem_append_right _ (.tail _ (.tail _ (.tail _ (.head _)))))))) (fc (.tail _ (List.mem_append_left _ (.tail _ (List.mem_append_right _ (.tail _ (.tail _ (.tail _ (.tail _ (.tail _ (.head _)))))))))) (fc (.tail _ (List.mem_append_left _ (.tail _ (List.mem_append_right _ (.tail _ (.head _)))))) (fc (.tail _ (List.mem_append_left _ (.tail _ (List.mem_append_right _ (.tail _ (.tail _ (.tail _ (.tail _ (.head _))))))))) (fc (.tail _ (List.mem_append_left _ (.head _))) (fc (.tail _ (List.mem_append_left _ (.tail _ (List.mem_append_right _ (.head _))))) (fap (fap (fun _ h => .tail _ (List.mem_append_left _ (.tail _ (List.mem_append_left _ (h))))) (fap (fun _ h => .tail _ (List.mem_append_left _ (.tail _ (List.mem_append_right _ (.tail _ (.tail _ (.tail _ (.tail _ (.tail _ (.tail _ (List.mem_append_left _ (h)))))))))))) (fun _ h => .tail _ (List.mem_append_left _ (.tail _ (List.mem_append_right _ (.tail _ (.tail _ (.tail _ (.tail _ (.tail _ (.tail _ (List.mem_append_right _ (h)))))))))))))) (fun _ h => .tail _ (List.mem_append_right _ (h)))))))))))
theorem pm7 (hR : R = T :: (x2 ++ (x ++ o) ++ o2)) (hF : F = T :: s :: y :: a :: d :: u :: (x ++ o)) : ∀ p ∈ F, p ∈ y :: a :: u :: s :: d :: R := by
  subst hF hR
  exact fc (.tail _ (.tail _ (.tail _ (.tail _ (.tail _ (.head _)))))) (fc (.tail _ (.tail _ (.tail _ (.head _)))) (fc (.head _) (fc (.tail _ (.head _)) (fc (.tail _ (.tail _ (.tail _ (.tail _ (.head _))))) (fc (.tail _ (.tail _ (.head _))) (fap (fun _ h => .tail _ (.tail _ (.tail _ (.tail _ (.tail _ (.tail _ (List.mem_append_left _ (List.mem_append_right _ (List.mem_append_left _ (h)))))))))) (fun _ h => .tail _ (.tail _ (.tail _ (.tail _ (.tail _ (.tail _ (List.mem_append_left _ (List.mem_append_right _ (List.mem_append_right _ (h))))))))))))))))
theorem pm7t (hR : R = T :: (x2 ++ (x ++ o) ++ o2)) (hF : F = T :: s :: y :: a :: d :: u :: (x ++ o)) : ∀ p ∈ F, p ∈ w :: y :: a :: u :: s :: d :: t :: R := by
  subst hF hR
  exact fc (.tail _ (.tail _ (.tail _ (.tail _ (.tail _ (.tail _ (.tail _ (.head _)))))))) (fc (.tail _ (.tail _ (.tail _ (.tail _ (.head _))))) (fc (.tail _ (.head _)) (fc (.tail _ (.tail _ (.head _))) (fc (.tail _ (.tail _ (.tail _ (.tail _ (.tail _ (.head _)))))) (fc (.tail _ (.tail _ (.tail _ (.head _)))) (fap (fun _ h => .tail _ (.tail _ (.tail _ (.tail _ (.tail _ (.tail _ (.tail _ (.tail _ (List.mem_append_left _ (List.mem_append_right _ (List.mem_append_left _ (h)))))))))))) (fun _ h => .tail _ (.tail _ (.tail _ (.tail _ (.tail _ (.tail _ (.tail _ (.tail _ (List.mem_append_left _ (List.mem_append_right _ (List.mem_append_right _ (h))))))))))))))))))
theorem pm9 : ∀ p ∈ t :: (l :: l' :: w :: y :: a :: u :: s :: d :: R), p ∈ l :: l' :: w :: y :: a :: u :: s :: d :: t :: R := fc (.tail _ (.tail _ (.tail _ (.tail _ (.tail _ (.tail _ (.tail _ (.tail _ (.head _))))))))) (fc (.head _) (fc (.tail _ (.head _)) (fc (.tail _ (.tail _ (.head _))) (fc (.tail _ (.tail _ (.tail _ (.head _)))) (fc (.tail _ (.tail _ (.tail _ (.tail _ (.head _))))) (fc (.tail _ (.tail _ (.tail _ (.tail _ (.tail _ (.head _)))))) (fc (.tail _ (.tail _ (.tail _ (.tail _ (.tail _ (.tail _ (.head _))))))) (fc (.tail _ (.tail _ (.tail _ (.tail _ (.tail _ (.tail _ (.tail _ (.head _)))))))) (fun _ h => .tail _ (.tail _ (.tail _ (.tail _ (.tail _ (.tail _ (.tail _ (.tail _ (.tail _ (h))))))))))))))))))
theorem pm12 (hF : F = T :: s :: y :: a :: d :: u :: (x ++ o)) : ∀ p ∈ w :: y :: a :: u :: s :: d :: t :: T :: (x2 ++ (x ++ o)), p ∈ w :: (t :: (x2 ++ F)) := by
  subst hF
  exact fc (.head _) (fc (.tail _ (.tail _ (List.mem_append_right _ (.tail _ (.tail _ (.head _)))))) (fc (.tail _ (.tail _ (List.mem_append_right _ (.tail _ (.tail _ (.tail _ (.head _))))))) (fc (.tail _ (.tail _ (List.mem_append_right _ (.tail _ (.tail _ (.tail _ (.tail _ (.tail _ (.head _))))))))) (fc (.tail _ (.tail _ (List.mem_append_right _ (.tail _ (.head _))))) (fc (.tail _ (.tail _ (List.mem_append_right _ (.tail _ (.tail _ (.tail _ (.tail _ (.head _)))))))) (fc (.tail _ (.head _)) (fc (.tail _ (.tail _ (List.mem_append_right _ (.head _)))) (fap (fun _ h => .tail _ (.tail _ (List.mem_append_left _ (h)))) (fap (fun _ h => .tail _ (.tail _ (List.mem_append_right _ (.tail _ (.tail _ (.tail _ (.tail _ (.tail _ (.tail _ (List.mem_append_left _ (h))))))))))) (fun _ h => .tail _ (.tail _ (List.mem_append_right _ (.tail _ (.tail _ (.tail _ (.tail _ (.tail _ (.tail _ (List.mem_append_right _ (h))))))))))))))))))))
theorem pm14 : ∀ p ∈ t :: ((x2 ++ x) ++ (w :: [d, u, a])), p ∈ w :: y :: a :: u :: s :: d :: t :: T :: (x2 ++ (x ++ o)) := fc (.tail _ (.tail _ (.tail _ (.tail _ (.tail _ (.tail _ (.head _))))))) (fap (fap (fun _ h => .tail _ (.tail _ (.tail _ (.tail _ (.tail _ (.tail _ (.tail _ (.tail _ (List.mem_append_left _ (h)))))))))) (fun _ h => .tail _ (.tail _ (.tail _ (.tail _ (.tail _ (.tail _ (.tail _ (.tail _ (List.mem_append_right _ (List.mem_append_left _ (h)))))))))))) (fc (.head _) (fc (.tail _ (.tail _ (.tail _ (.tail _ (.tail _ (.head _)))))) (fc (.tail _ (.tail _ (.tail _ (.head _)))) (fc (.tail _ (.tail _ (.head _))) (fn))))))
theorem pm8 (hR : R = T :: (x2 ++ (x ++ o) ++ o2)) : (∀ p ∈ x2, p ∈ R) ∧ (∀ p ∈ x, p ∈ R) ∧ ∀ p ∈ o2, p ∈ R := by
  subst hR
  exact ⟨fun _ h => .tail _ (List.mem_append_left _ (List.mem_append_left _ h)), fun _ h => .tail _ (List.mem_append_left _ (List.mem_append_right _ (List.mem_append_left _ h))), fun _ h => .tail _ (List.mem_append_right _ h)⟩
theorem pm13 (hF : F = T :: s :: y :: a :: d :: u :: (x ++ o)) : d ∈ F ∧ u ∈ F ∧ ∀ q ∈ o, q ∈ F := by
  subst hF
  exact ⟨.tail _ (.tail _ (.tail _ (.tail _ (.head _)))), .tail _ (.tail _ (.tail _ (.tail _ (.tail _ (.head _))))), fun _ h => .tail _ (.tail _ (.tail _ (.tail _ (.tail _ (.tail _ (List.mem_append_right _ h))))))⟩
theorem fa5 (h1 : P t) (h2 : P c) (h3 : P d) (h4 : P u) (h5 : P a) : ∀ p ∈ t :: ([] ++ (c :: [d, u, a])), P p := fc h1 (fc h2 (fc h3 (fc h4 (fc h5 fn))))
theorem fa8 (hF : F = T :: s :: y :: a :: d :: u :: (x ++ o)) (h1 : P T) (h2 : P s) (h3 : P y) (h4 : P a) (h5 : P d) (h6 : P u) (h7 : ∀ p ∈ x, P p) (h8 : ∀ p ∈ o, P p) : ∀ p ∈ F, P p := by
  subst hF
  exact fc h1 (fc h2 (fc h3 (fc h4 (fc h5 (fc h6 (fap h7 h8))))))
theorem fa7 (h1 : P t) (h2 : ∀ p ∈ x2, P p) (h3 : ∀ p ∈ x, P p) (h4 : P w) (h5 : P d) (h6 : P u) (h7 : P a) : ∀ p ∈ t :: ((x2 ++ x) ++ (w :: [d, u, a])), P p := fc h1 (fap (fap h2 h3) (fc h4 (fc h5 (fc h6 (fc h7 fn)))))
theorem pm11 (hR : R = T :: (x2 ++ (x ++ o) ++ o2)) (hF : F = T :: s :: y :: a :: d :: u :: (x ++ o)) : ∀ q ∈ y :: a :: u :: s :: d :: R, q ∈ F ∨ q ∈ x2 ∨ q ∈ o2 := by
  subst hF hR
  exact fc (.inl (.tail _ (.tail _ (.head _)))) (fc (.inl (.tail _ (.tail _ (.tail _ (.head _))))) (fc (.inl (.tail _ (.tail _ (.tail _ (.tail _ (.tail _ (.head _))))))) (fc (.inl (.tail _ (.head _))) (fc (.inl (.tail _ (.tail _ (.tail _ (.tail _ (.head _)))))) (fc (.inl (.head _)) (fap (fap (fun _ h => .inr (.inl h)) (fun _ h => .inl (.tail _ (.tail _ (.tail _ (.tail _ (.tail _ (.tail _ h)))))))) (fun _ h => .inr (.inr h))))))))
theorem pm18 {β : Type} {g : α → β} {r : β} {v : β} (ho : ∀ b ∈ v :: (t :: (x ++ (w :: [d, u, a]))).map g, r ≠ b) : r ≠ g t ∧ (∀ p ∈ x, r ≠ g p) ∧ r ≠ g w ∧ r ≠ g d ∧ r ≠ g u ∧ r ≠ g a := by
  have h : ∀ p ∈ t :: (x ++ (w :: [d, u, a])), r ≠ g p := fun p hp => ho _ (.tail _ (List.mem_map.mpr ⟨p, hp, rfl⟩))
  exact ⟨h _ (.head _), fun p hp => h p (.tail _ (List.mem_append_left _ hp)), h _ (.tail _ (List.mem_append_right _ (.head _))), h _ (.tail _ (List.mem_append_right _ (.tail _ (.head _)))), h _ (.tail _ (List.mem_append_right _ (.tail _ (.tail _ (.head _))))), h _ (.tail _ (List.mem_append_right _ (.tail _ (.tail _ (.tail _ (.head _))))))⟩
end
end Mine
end
section
theorem fresh_L1 : True := by
  w_top off
  trivial
open PySem.W.X (SegX)
open PySem PySem.W PyProof.Rows PySem.Calls PySem.Spec

open Mine

namespace Mine
def WJ (L0 D ua : Nat) (rest1 : List (Addr × Obj)) (fw : Bool) (i : Nat) (m : Str → Option Value) (nx : List (Addr × Obj)) : Prop :=
  ∃ ps extra oW vW, nx = (60, tabObj ps) :: (extra ++ ((L0 + 1 + 1 + 1, oW) :: rest1)) ∧ oW.data = .cell vW ∧ TabIn ps extra ∧ (∀ p ∈ extra, L0 + 1 + 1 + 1 < p.1 ∧ D < p.1 ∧ ua < p.1) ∧ m (Str.ofString "units") = some (.ref ua) ∧ m (Str.ofString "few") = some (.bool fw)
def EndP (g : Heap) (s₁ : Shared) (P : Addr) (r : Result) (s' : Shared) : Prop := r = .ok (.ret (.bool true)) ∧ (∀ b o, g.get? b = some o → s'.heap.get? b = some o) ∧ s'.os = s₁.os ∧ AllBare s'.gens ∧ GrownAt P s'.heap
theorem my_post {M : Model} {A : Around} {cd : Code} {s s₁ : Shared} {cw : ClaimW} {cl : Str → Option Addr} {mean : ExcName → Option Value} {args : List WData} {c P : Addr} (hT : TabsAt [(c, P)] s₁.heap) (hr : ∀ a x, cw.raises a x = false) (hp : cw.post args (.bool true) args = true)
    (h : codeAny M A cd (EndP (ghostOf s₁.heap [(c, P)]) s₁ P) s) : codeAny M A cd (GoodWG cw cl mean args s₁) s := by
  refine codeAny_mono h fun r s' hh => ?_
  obtain ⟨rfl, hk, hos, hb, ps, hP⟩ := hh
  have h0 := hT (c, P) (.head _)
  have other : ∀ b o, b ≠ P → s₁.heap.get? b = some o → s'.heap.get? b = some o := fun b o hne e => hk b o (ghost_ne e (by simpa using hne))
  refine ⟨.inl ⟨.bool true, .bool true, [], rfl, fun x => hr _ x, .bool true, hp, unshared_nil⟩, ⟨fun b o e => ?_, fun b o e => ?_⟩, hos, hb⟩
  · by_cases q : b = P
    · subst q
      have e2 := h0.2
      rw [e] at e2
      obtain rfl := Option.some.inj e2
      exact .inr (.inl ⟨(h0.1.tab h0.2).isCodeTable, rfl, #[], ps, rfl, by rw [Array.empty_append]; exact hP⟩)
    · exact .inl (other b o q e)
  · by_cases q : b = P
    · subst q; exact ⟨_, hP⟩
    · exact ⟨o, other b o q e⟩
theorem TabIn.mono {ps : Array Value} {l l' : List (Addr × Obj)} (h : TabIn ps l) (hs : ∀ p ∈ l, p ∈ l') : TabIn ps l' := by
  rcases h with h | ⟨c, oc, vs, t, h1, h2, h3, h4⟩
  · exact .inl h
  · exact .inr ⟨c, oc, vs, t, h1, hs _ h2, h3, h4⟩
/-- between the turns of the loop over wished -/
def WJ2 (L0 ua sa : Nat) (us : List Str) (sides : List Int) (extra fixed : List (Addr × Obj)) (fw : Bool) (i : Nat) (m : Str → Option Value) (nx : List (Addr × Obj)) : Prop :=
  ∃ ps ex b, nx = (60, tabObj ps) :: (ex ++ fixed) ∧ TabIn ps (ex ++ extra) ∧ (∀ p ∈ ex, 60 < p.1 ∧ L0 + 1 + 1 + 1 < p.1 ∧ ∀ q ∈ fixed, q.1 < p.1) ∧ m (Str.ofString "units") = some (.ref ua) ∧ m (Str.ofString "few") = some (.bool fw) ∧ m (Str.ofString "sides") = some (.ref sa) ∧ m (Str.ofString "rise") = some (.bool b) ∧
    (b = true ↔ ∀ j : Nat, j < i → sortS (sideOf us sides j) = sideOf us sides j)
theorem News.ne_data {g : Heap} {L : Addr} {h : Heap} {news : List (Addr × Obj)} (N : News g L h news) {a b : Addr} {o o' : Obj} (h1 : (a, o) ∈ news) (h2 : (b, o') ∈ news) (hd : o.data ≠ o'.data) : a ≠ b := by
  rintro rfl
  have e1 := (N _ h1).1
  have e2 := (N _ h2).1
  rw [e1] at e2; cases e2; exact hd rfl
theorem sideOf_mem {us : List Str} {sides : List Int} {w : Int} {u : Str} (h : u ∈ sideOf us sides w) : u ∈ us := by
  unfold sideOf selS at h
  obtain ⟨i, hi, rfl⟩ := List.mem_map.mp h
  have hi' := List.mem_range.mp (List.mem_filter.mp hi).1
  simp [List.getD, hi']
theorem sideOf_len (us : List Str) (sides : List Int) (w : Int) : (sideOf us sides w).length ≤ us.length := by
  unfold sideOf selS
  rw [List.length_map]
  exact Nat.le_trans (List.length_filter_le _ _) (by simp)
theorem wj2_end {base : Heap} {L : Addr} {L0 ua sa : Nat} {us : List Str} {sides : List Int} {extra fixed own2 ex2 exN nw : List (Addr × Obj)} {fw b : Bool} {i' : Nat} {h' : Heap} {gn' : Array GenState} {tk' : Nat} {s₁ : Shared} {m' : Str → Option Value} {ps2 ps3 : Array Value} {oV : Obj} {vv : Option Value}
    (F : Fr base L h' m') (N : News base L h' nw) (n1 : (L0 + 1 + 1 + 1, oV) ∈ nw) (hd : oV.data = .cell vv) (n2 : (60, tabObj ps3) ∈ nw) (n3 : ∀ p ∈ exN, p ∈ nw) (n4 : ∀ p ∈ ex2, p ∈ nw) (n5 : ∀ p ∈ fixed, p ∈ nw) (n6 : ∀ p ∈ own2, p ∈ nw)
    (htab2 : TabIn ps2 (ex2 ++ extra)) (htab3 : (ps3 = ps2 ∧ exN = []) ∨ TabIn ps3 exN) (hex2 : ∀ p ∈ ex2, 60 < p.1 ∧ L0 + 1 + 1 + 1 < p.1 ∧ ∀ q ∈ fixed, q.1 < p.1) (hexN : ∀ p ∈ exN, (60 < p.1 ∧ L0 + 1 + 1 + 1 < p.1 ∧ ∀ q ∈ fixed, q.1 < p.1) ∧ ∀ q ∈ own2, q.1 < p.1)
    (hoff2 : OwnOff own2 ((L0 + 1 + 1 + 1) :: ((60, tabObj ps2) :: (ex2 ++ fixed)).map (·.1))) (hfW : ∀ p ∈ fixed, p.1 ≠ L0 + 1 + 1 + 1) (h60W : (60 : Nat) ≠ L0 + 1 + 1 + 1)
    (e1 : m' (Str.ofString "units") = some (.ref ua)) (e2 : m' (Str.ofString "few") = some (.bool fw)) (e3 : m' (Str.ofString "sides") = some (.ref sa)) (e4 : m' (Str.ofString "rise") = some (.bool b)) (hb : b = true ↔ ∀ j : Nat, j < i' + 1 → sortS (sideOf us sides j) = sideOf us sides j) (hbr : AllBare s₁.gens → AllBare gn') :
    LEndC base L (L0 + 1 + 1 + 1) (WJ2 L0 ua sa us sides extra fixed fw (i' + 1)) own2 s₁ { s₁ with heap := h', gens := gn', toks := tk' } := by
  refine ⟨h', gn', tk', m', nw, (60, tabObj ps3) :: ((exN ++ ex2) ++ fixed), oV, vv, rfl, hbr, F, N, n1, hd, ?_, ?_, n6, ?_, ps3, exN ++ ex2, b, rfl, ?_, ?_, e1, e2, e3, e4, hb⟩
  · intro p hp
    rcases List.mem_cons.mp hp with rfl | hp
    · exact n2
    · rcases List.mem_append.mp hp with hp | hp
      · exact (List.mem_append.mp hp).elim (n3 p) (n4 p)
      · exact n5 p hp
  · intro p hp
    rcases List.mem_cons.mp hp with rfl | hp
    · exact h60W
    · rcases List.mem_append.mp hp with hp | hp
      · rcases List.mem_append.mp hp with hp | hp
        · exact Nat.ne_of_gt (hexN p hp).1.2.1
        · exact Nat.ne_of_gt (hex2 p hp).2.1
      · exact hfW p hp
  · intro q hq c hc
    rw [List.map_cons, List.map_append, List.map_append] at hc
    rcases List.mem_cons.mp hc with rfl | hc
    · exact hoff2 q hq _ (.tail _ (.head _))
    · rcases List.mem_append.mp hc with hc | hc
      · rcases List.mem_append.mp hc with hc | hc
        · obtain ⟨p, hp, rfl⟩ := List.mem_map.mp hc
          exact Nat.ne_of_lt ((hexN p hp).2 q hq)
        · exact hoff2 q hq _ (.tail _ (.tail _ (by rw [List.map_append]; exact List.mem_append_left _ hc)))
      · exact hoff2 q hq _ (.tail _ (.tail _ (by rw [List.map_append]; exact List.mem_append_right _ hc)))
  · rcases htab3 with ⟨rfl, rfl⟩ | h
    · exact htab2
    · exact h.mono fun p hp => List.mem_append_left _ (List.mem_append_left _ hp)
  · intro p hp
    exact (List.mem_append.mp hp).elim (fun z => (hexN p z).1) (hex2 p)
theorem topEx {p : Program} {l : List Str} {mean : ExcName → Option Value} {mg mb : Str → Option Value} {h : Heap} (T : Top p l mean mg mb h) : ∃ l', Top p l' mean mg mb h := ⟨l, T⟩
end Mine
section
local macro_rules | `(tactic| walk_at "call type:range") => `(tactic| refine Mine.Halt.mk ?_)
local macro_rules | `(tactic| walk_at "call type:zip") => `(tactic| refine Mine.Halt.mk ?_)
local macro_rules | `(tactic| walk_at "compareOp NotEq") => `(tactic| refine Mine.Halt.mk ?_)
local macro_rules | `(tactic| walk_at "compareOp NotEq ref ref") => `(tactic| refine Mine.Halt.mk ?_)
local macro_rules | `(tactic| walk_at "subscriptTail Name Slice ref ref") => `(tactic| refine Mine.Halt.mk ?_)
local macro_rules | `(tactic| walk_at "call ref cons nil") => `(tactic| refine Mine.Halt.mk ?_)
local macro_rules | `(tactic| walk_at "call ref") => `(tactic| refine Mine.Halt.mk ?_)
local macro_rules | `(tactic| walk_at "CompSrc") => `(tactic| refine Mine.Halt.mk ?_)
local macro_rules | `(tactic| walk_at "CompSrcT") => `(tactic| refine Mine.Halt.mk ?_)
local macro_rules | `(tactic| walk_at "call builtin:max") => `(tactic| refine Mine.Halt.mk ?_)
local macro_rules | `(tactic| walk_at "call builtin:min") => `(tactic| refine Mine.Halt.mk ?_)
local macro_rules | `(tactic| walk_at "eval ListComp") => `(tactic| refine Mine.Halt.mk ?_)
local macro_rules | `(tactic| walk_at "exec For Name Call cons nil") => `(tactic| refine Mine.Halt.mk ?_)
local macro_rules | `(tactic| walk_at "exec For Name Tuple cons nil") => `(tactic| refine Mine.Halt.mk ?_)
set_option maxRecDepth 100000 in
set_option maxHeartbeats 8000000 in
theorem L1 : ∀ _ : Unit, PySem.Challenge.rw_pg0087_01.Holds := by
  intro _
  refine hd ?_
  k_fill
  intro w s₀ s₁ mg mb G Y fa o pm cd doc dV kV ho hdd hcd hD hmg hg args vals as hpre hlay hrd hwl hlo
  have KX := km_in_of Y
  km_tabs Y
  have X := (Ground.X G).1
  have V := (Ground.X G).2
  refine Ground.open G ?_
  intro T B D TE TW
  try (refine guard_noD D (by decide +kernel) ?_; clear D)
  km_lay T hmg ho hdd cd
  clear hmg
  wrow_args hpre hlay hrd hwl hlo
  all_goals (
    first | refine callC_kw (enter_call ?_) | refine enter_call ?_
    w_top on
    refine my_post hT9 (fun _ _ => rfl) (by first | rfl | wrow_post) ?_
    w_call any ho hdd hcd hD T F
    clear hdd
    kn_ghosts F T
    k_drop
    skip)
  (all_goals try k_fold)
  k_steps
  with_reducible rename Fr _ _ _ _ => F0
  with_reducible rename News _ _ _ _ => N0
  with_reducible rename Below _ _ _ _ => B0
  with_reducible rename Top topProg _ _ _ _ _ => T0
  with_reducible rename (hd.heap_39 _).In _ => X0
  with_reducible rename IntsAre _ _ => hI
  with_reducible rename (ghostOf _ _).IsList _ _ => hLst
  with_reducible rename CodeHd _ _ _ => CH
  with_reducible rename ¬ _ < _ => h63
  with_reducible rename _ < Array.size _ => l60
  (with_reducible rename (kmHook _ _ _ _).says _ _ => z; clear z)
  try (with_reducible rename Top hd.view_39 _ _ _ _ _ => z; clear z)
  try (with_reducible rename Shape.has _ _ = true => z; clear z)
  try (with_reducible rename PyData.layable0 _ = true => z; clear z)
  try (with_reducible rename WShape.hasAll _ _ _ = true => z; clear z)
  try (with_reducible rename WData.layableAll _ = true => z; clear z)
  try (with_reducible rename Heap.CodeRec _ _ _ => z; clear z)
  try (with_reducible rename Dflts _ _ => z; clear z)
  try (with_reducible rename Dflts _ _ _ => z; clear z)
  try (with_reducible rename Dflts _ _ _ _ => z; clear z)
  try (with_reducible rename Dflts _ _ _ _ _ => z; clear z)
  try (with_reducible rename Dflts _ _ _ _ _ _ => z; clear z)
  try (with_reducible rename CellsAre _ _ _ => z; clear z)
  try (with_reducible rename Ground _ _ _ _ _ _ _ => z; clear z)
  try (with_reducible rename Ground _ _ _ _ _ _ _ _ => z; clear z)
  try (with_reducible rename Ground _ _ _ _ _ _ _ _ _ => z; clear z)
  try (with_reducible rename Ground _ _ _ _ _ _ _ _ _ _ => z; clear z)
  try (with_reducible rename Tables _ _ _ _ => z; clear z)
  try (with_reducible rename TopE _ _ _ _ => z; clear z)
  try (with_reducible rename TopW _ _ _ => z; clear z)
  try (with_reducible rename Flt.MathXP _ _ _ => z; clear z)
  try (with_reducible rename LooseAre _ _ _ => z; clear z)
  try (with_reducible rename Well _ _ _ _ => z; clear z)
  try (with_reducible rename Reads _ _ _ _ => z; clear z)
  try (with_reducible rename ReadsAll _ _ _ _ => z; clear z)
  try (with_reducible rename ReadsAllW _ _ _ _ _ _ => z; clear z)
  try (with_reducible rename TabsAt _ _ => z; clear z)
  (with_reducible rename Obj.data _ = _ => z; have z1 := z; clear z; revert z1)
  (with_reducible rename Obj.data _ = _ => z; have z1 := z; clear z; revert z1)
  (with_reducible rename Obj.data _ = _ => z; have z1 := z; clear z; revert z1)
  intro dA dB dC
  with_reducible rename Heap => h1
  with_reducible rename Shared => s1
  with_reducible rename World => ww
  generalize hg0 : ghostOf s1.heap [(64, 60)] = g0 at F0 N0 B0 T0 X0 hLst CH ⊢
  generalize hL0 : s1.heap.objs.size = L0 at F0 N0 l60 ⊢
  replace T0 := topEx T0
  obtain ⟨loose, T0⟩ := T0
  replace F0 : Fr g0 L0 h1 (fun y => if y = Str.ofString "script" then some (.ref _) else none) := F0
  obtain ⟨oC, oB, oA, dC', dB', dA', N0'⟩ : ∃ oC oB oA : Obj, oC.data = .cell none ∧ oB.data = .cell none ∧ oA.data = .cell none ∧ News g0 L0 h1 [(L0 + 1 + 1 + 1, oC), (L0 + 1 + 1, oB), (L0 + 1, oA), (60, tabObj #[])] := ⟨_, _, _, dA, dB, dC, N0⟩
  clear dC dB dA
  clear N0
  with_reducible rename News _ _ _ _ => N0
  refine Halt.go (units_c B0 F0 X0 N0 T0 rfl _ _ _ hI hLst (by omega) (by ktr_room) (by ktr_room) fun h2 gn2 tk2 ua uvs us un hus huo hst hbr2 F2 N2 hlt2 => ?_)
  clear F0 N0
  simp only [List.forall_mem_cons] at hlt2
  have hul : uvs.length = us.length := hst.length
  have husK : Unit → (us.length = 4 ∨ us.length = 5) := fun _ => hus
  have hu5 : us.length ≤ 5 := by omega
  have hu1 : 1 ≤ us.length := by omega
  clear hus
  have husne : ∀ u ∈ us, 0 < u.length := fun u hu => by
    obtain ⟨c, h | h⟩ := huo u hu
    · rw [h.1]; exact Nat.zero_lt_two
    · rw [h.1]; exact Nat.zero_lt_one
  k_steps
  rename_i F3 N3
  refine Halt.go ?_
  k_dflt (refine LCg.ListComp_U (F₀ := by k_asm) (by with_unfolding_all rfl) (by decide) (by rfl) (by decide) (by rfl) ?_)
  k_steps
  refine Halt.go (LCg.CompSrc.ledger rfl (by assumption) N3 (.head _) (by simp [sizeLine]; omega) fun g => restU (fun i ys => StrsAre ys ((us.take i).map lastS)) (.inr ⟨_, .head _, rfl, _, rfl⟩) ?_ ?_ _ 0 [] (Nat.zero_add _) .nil (Nat.le_refl _))
  · intro i ys v I oI C oC D m₂ h tk E' hi hJ hyl hv hC hx F' N' off ne
    have hi' : i < us.length := by simpa [hul] using hi
    obtain ⟨tv, htv⟩ := strs_at hst i hi'
    have hv' : v = .str (us.getD i default) tv := by
      rw [List.getElem?_toArray, htv] at hv; exact (Option.some.inj hv).symm
    subst hv'
    have hl : 0 < (us.getD i default).length := husne _ (by simp [List.getD, hi'])
    k_steps
    refine ⟨_, _, _, rfl, (by assumption), (by assumption), fun _ h => h, ?_⟩
    rw [List.take_succ, List.map_append]
    simp only [List.getElem?_eq_getElem hi', Option.toList_some, List.map_singleton]
    have := strs_snoc hJ (lastS (us.getD i default))
    simp only [List.getD, List.getElem?_eq_getElem hi', Option.getD_some] at this ⊢
    exact this _
  · intro ys hJ hyl D h' tk' F' N' off
    have hw : StrsAre ys (us.map lastS) := by
      have e : (List.toArray uvs).size = us.length := by simp [hul]
      rw [e, List.take_length] at hJ; exact hJ
    simp only [LCg.Off1, and_true] at off
    have hoffD := off
    try dsimp only
    k_steps
    have hDn : @Ne Nat D (L0 + 1) := fun e => off.2.2.2.1 e.symm
    refine storeX_C F' N' rfl (.tail hDn (.tail (Nat.ne_of_gt hlt2.2.2.1) (.tail (Nat.ne_of_gt (show L0 + 1 < L0 + 1 + 1 + 1 from Nat.lt_succ_of_lt (Nat.lt_succ_self _))) (.tail (Nat.ne_of_gt (show L0 + 1 < L0 + 1 + 1 from Nat.lt_succ_self _)) (.head fun p hp => by rw [List.mem_singleton.mp hp]; exact Nat.ne_of_lt (Nat.lt_succ_of_lt l60)))))) dA' (fun h5 oA' F5 N5 dA2 => ?_) rfl rfl
    try dsimp only at N5
    clear F' N' F3 N3 dA'
    have hyl' : ys.length = us.length := by simpa using hw.length
    k_steps
    refine Halt.go ?_
    k_dflt (refine LCt.ListComp_T (F₀ := by k_asm) (by with_unfolding_all rfl) (by decide) (by rfl) (by decide) (by rfl) ?_)
    generalize hword : us.map lastS = word at hw
    have hwl : word.length = us.length := by rw [← hword]; simp
    have hwK : Unit → StrsAre ys word := fun _ => hw
    k_steps
    refine Halt.go (range1_rows (by with_reducible assumption) (by with_reducible assumption) fun h6 _ _ _ _ R1 F6 N6 hkeep6 => ?_)
    refine Halt.go (LCt.CompSrcT.range (n := word.length) rfl F6 N6 R1 (small_one (by omega) (by omega) (by omega) (by omega)) (by rw [rangeSize_nat]; omega) (by simp [sizeLine]; omega) fun g => restT (fun i zs => IntsAre zs (((List.range i).filter (midAt word)).map Int.ofNat)) trivial ?_ ?_ _ 0 [] (Nat.zero_add _) .nil (Nat.le_refl _))
    · intro i zs v I oI C oC D' m₂ h tk E' hi hJ hyl hv hC hx F' N' off ne
      obtain ⟨t, rfl⟩ := hv
      k_steps
      refine Halt.go (takeV F' N' (n := i + 1) (.tail _ (.tail _ (.tail _ (.head _)))) (by omega) (by omega) fun D1 h3 F3 N3 hlt3 => ?_)
      k_steps
      refine Halt.go (max_strs rfl F3 N3 (.head _) (StrsAre.tk (hwK ()) _) (by simp; omega) fun h4 tk4 t4 F4 N4 => ?_)
      clear F3 N3 F' N'
      have e0 : (0 + (i : Int)).toNat = i := by omega
      have ed : ∀ (l : List Str) (j : Nat), l.getD j Str.empty = l.getD j default := fun _ _ => rfl
      k_steps
      · with_reducible rename _ < _ => hgt
        rw [e0, ed] at hgt
        refine Halt.go (dropV F4 N4 (n := i) (.tail _ (.tail _ (.tail _ (.tail _ (.head _))))) (by omega) (by omega) fun D2 h5 F5 N5 hlt5 => ?_)
        k_steps
        refine Halt.go (min_strs rfl F5 N5 (.head _) (StrsAre.dr (hwK ()) _) (by simp; omega) fun h6 tk6 t6 F6 N6 => ?_)
        clear F4 N4 F5 N5
        k_steps
        · with_reducible rename (minS _).cps.toList < _ => hlo
          rw [e0, ed] at hlo
          refine ⟨_, _, _, rfl, F6, N6, fun p hp => .tail _ (.tail _ hp), ?_⟩
          have em : midAt word i = true := by unfold midAt ltS; rw [decide_eq_true hgt, decide_eq_true hlo]; rfl
          have e1 : (0 + (i : Int)) = Int.ofNat i := by simp
          rw [List.range_succ, List.filter_append, List.map_append]
          have e2 : [i].filter (midAt word) = [i] := by simp [em]
          rw [e2, e1]
          exact ints_snoc hJ _ _
        · with_reducible rename ¬ (minS _).cps.toList < _ => hlo
          rw [e0, ed] at hlo
          refine ⟨_, _, _, rfl, F6, N6, fun p hp => .tail _ (.tail _ hp), ?_⟩
          have em : midAt word i = false := by unfold midAt ltS; rw [decide_eq_false hlo, Bool.and_false]
          rw [List.range_succ, List.filter_append]
          simpa [em] using hJ
      · with_reducible rename ¬ _ < _ => hgt
        rw [e0, ed] at hgt
        refine ⟨_, _, _, rfl, F4, N4, fun p hp => .tail _ hp, ?_⟩
        rw [List.range_succ, List.filter_append]
        have em : midAt word i = false := by unfold midAt ltS; rw [decide_eq_false hgt]; rfl
        simpa [em] using hJ
    · intro zs hJ hyl D' h' tk' F' N' off
      generalize hfew : decide (fewL word = []) = fw
      try dsimp only
      k_steps
      rename_i F7 N7
      have hfew' : decide (List.map Int.ofNat (List.filter (midAt word) (List.range word.length)) = []) = fw := hfew
      rw [hfew'] at F7
      have huK := fun u hu => unit_ok (huo u hu)
      have hwok : ∀ u ∈ word, PyData.strOk u = true := fun u hu => by
        rw [← hword] at hu
        obtain ⟨v, hv, rfl⟩ := List.mem_map.mp hu
        exact (huK v hv).2.1
      refine Halt.go (rows_c B0 F7 X0 N7 T0 rfl D ys word _ (hwK ()) (.tail _ (.tail _ (.head _))) (by omega) hwok (by ktr_room) (by ktr_room) fun h8 gn8 tk8 DR rvs kR hbr8 F8 N8 hrl hrd => ?_)
      clear F7 N7
      have hrows := plain_rows us (husK ()) huo
      rw [hword, ← hrl] at hrows
      have hr8 : rvs.length ≤ 8 := by
        rw [hrl]
        refine Nat.le_trans (List.length_filter_le _ _) ?_
        have := (rowsS_len word [] 0 (fun _ h => nomatch h)).2
        unfold rowsS; rw [this]; simp; omega
      k_steps
      refine len_list (N8.isList (.head _)) (by simp; omega) ?_
      k_steps
      · with_reducible rename (_ != _) = true => hne
        exfalso
        have e1 : decide ((rvs.toArray.size : Int) < 3) = fw := by
          rw [← hfew]
          by_cases q : rvs.length < 3
          · rw [decide_eq_true (hrows.mp q), decide_eq_true (by simp; omega)]
          · rw [decide_eq_false (fun z => q (hrows.mpr z)), decide_eq_false (by simp; omega)]
        rw [e1, bne_self_eq_false] at hne
        cases hne
      clear hrd
      have hwl5 : word.length ≤ 5 := by omega
      have hwl1 : 1 ≤ word.length := by omega
      refine Halt.go (forSrc ?_)
      k_steps
      refine Halt.go (range1_rows (by with_reducible assumption) (by with_reducible assumption) fun h9 _ _ _ _ R9 F9 N9 hkeep9 => ?_)
      clear F8 N8 hrl hrows hr8
      have hpow : (2 : Int) ^ ((word.length : Int) - 1).toNat = ((2 ^ (word.length - 1) : Nat) : Int) := by
        have e : ((word.length : Int) - 1).toNat = word.length - 1 := by omega
        rw [e]; simp
      rw [hpow] at R9
      have hp16 : 2 ^ (word.length - 1) ≤ 2 ^ 4 := Nat.pow_le_pow_right (by decide) (by omega)
      generalize hnp : 2 ^ (word.length - 1) = np at R9 hp16
      have N10 : News g0 L0 h9 ((L0 + 1 + 1, oB) :: ((60, tabObj #[]) :: ([] ++ ((L0 + 1 + 1 + 1, oC) :: [(D, listOf (List.toArray ys) ys.length), (ua, listOf (List.toArray uvs) un), (L0 + 1, oA')])))) := fun p hp => N9 p (pm1 p hp)
      refine forRangeC (base := g0) (c := L0 + 1 + 1) (n := np) rfl rfl rfl rfl F9 N10 dB' ?_ R9 (small_one (by omega) (by omega) (by omega) (by omega)) (by rw [rangeSize_nat]; omega) (WJ L0 D ua [(D, listOf (List.toArray ys) ys.length), (ua, listOf (List.toArray uvs) un), (L0 + 1, oA')] fw) ⟨#[], [], oC, none, rfl, dC', .inl rfl, (fun _ h => nomatch h), rfl, rfl⟩ ?_ ?_
      · refine fa5 ?_ ?_ ?_ ?_ ?_
        · exact Nat.ne_of_lt (Nat.lt_succ_of_lt (Nat.lt_succ_of_lt l60))
        · exact Nat.ne_of_gt (Nat.lt_succ_self _)
        · exact fun e => hoffD.2.2.1 e.symm
        · exact Nat.ne_of_gt hlt2.2.1
        · exact Nat.ne_of_lt (Nat.lt_succ_self _)
      · intro i tt oWay m₁ news₁ hO gnO tkO own E' hi hdw hJw hcn hoffw F10 N11
        obtain ⟨ps, extra, oW, vW, rfl, hdW, htab, hex, e1, e2⟩ := hJw
        have F11 := Fr.put F10 [(Str.ofString "units", _), (Str.ofString "few", _)] ⟨e1, e2, trivial⟩
        simp only [putM] at F11
        change Fr g0 L0 hO _ at F11
        change News g0 L0 hO _ at N11
        have N12 : News g0 L0 hO ((L0 + 1 + 1 + 1, oW) :: (L0 + 1 + 1, oWay) :: (L0 + 1, oA') :: (D, listOf (List.toArray ys) ys.length) :: (ua, listOf (List.toArray uvs) un) :: (60, tabObj ps) :: (extra ++ own)) := fun p hp => N11 p (pm3 p hp)
        clear F10 N11 F9 N9 N10 R9
        have hysz : (List.toArray ys).size = word.length := by simp; omega
        k_steps
        refine Halt.go ?_
        k_dflt (refine LCg.ListComp_U (F₀ := by k_asm) (by with_unfolding_all rfl) (by decide) (by rfl) (by decide) (by rfl) ?_)
        k_steps
        refine Halt.go (range1_rows (by with_reducible assumption) (by with_reducible assumption) fun h13 _ _ _ _ R13 F13 N13 hk13 => ?_)
        refine Halt.go (LCg.CompSrc.range (n := word.length - 1) rfl F13 N13 R13 (small_one (by omega) (by omega) (by omega) (by omega)) (by rw [rangeSize_nat]; omega) (by simp [sizeLine]; omega) fun g => restU (fun i ys' => ∃ zs, IntsAre ys' zs ∧ zs.length = i ∧ ∀ z ∈ zs, z = 0 ∨ z = 1) trivial ?_ ?_ _ 0 [] (Nat.zero_add _) ⟨[], .nil, rfl, fun _ h => nomatch h⟩ (Nat.le_refl _))
        · intro i ys' v I oI C oC D' m₂ h tk E' hi hJ hyl hv hC hx F' N' off ne
          obtain ⟨t, rfl⟩ := hv
          obtain ⟨zs, hz1, hz2, hz3⟩ := hJ
          k_steps
          refine ⟨_, _, _, rfl, (by with_reducible assumption), (by with_reducible assumption), fun _ h => h, zs ++ [_], ints_snoc hz1 _ _, by simp [hz2], fun z hz => ?_⟩
          rcases List.mem_append.mp hz with q | q
          · exact hz3 z q
          · rw [List.mem_singleton.mp q, Int.fmod_eq_emod_of_nonneg _ (by decide)]; omega
        · intro ys' hJ hyl D' h' tk' F' N' off
          obtain ⟨zs', hz1, hz2, hz3⟩ := hJ
          try dsimp only
          k_steps
          with_reducible rename IntsAre _ ([0] ++ zs') => hws
          generalize hsd : [0] ++ zs' = sides at hws
          have hsOk : SidesOk us sides := ⟨by rw [← hsd]; simp; omega, by rw [← hsd]; rfl, fun d hd => by
            rw [← hsd] at hd
            rcases List.mem_append.mp hd with q | q
            · exact .inl (List.mem_singleton.mp q)
            · exact hz3 d q⟩
          refine Halt.go (forSrc ?_)
          k_steps
          rename_i T h20 F20 N20 lT
          obtain ⟨oT, sa, wsv, x1, x2, N21, hT1, t1, t2, hT2, F21, hI21⟩ : ∃ (oT : Obj) (sa : Addr) (wsv : List Value) (x1 x2 : Addr × Obj), News g0 L0 h20 ((T, oT) :: (sa, listOf (List.toArray wsv) 0) :: x1 :: x2 :: (L0 + 1 + 1 + 1, oW) :: (L0 + 1 + 1, oWay) :: (L0 + 1, oA') :: (D, listOf (List.toArray ys) ys.length) :: (ua, listOf (List.toArray uvs) un) :: (60, tabObj ps) :: (extra ++ own)) ∧
            oT.cls = .type "tuple" ∧ ∃ t1 t2, oT.data = .seq #[.int 0 t1, .int 1 t2] ∧ Fr g0 L0 h20 (fun y => if y = Str.ofString "rise" then some (.bool true) else if y = Str.ofString "sides" then some (.ref sa) else if y = Str.ofString "units" then some (.ref ua) else if y = Str.ofString "few" then some (.bool fw) else m₁ y) ∧ IntsAre wsv sides := ⟨_, _, _, _, _, N20, rfl, _, _, rfl, F20, hws⟩
          obtain ⟨fixed, hfixed⟩ : ∃ fixed, fixed = (T, oT) :: (sa, listOf (List.toArray wsv) 0) :: (L0 + 1 + 1, oWay) :: (L0 + 1, oA') :: (D, listOf (List.toArray ys) ys.length) :: (ua, listOf (List.toArray uvs) un) :: (extra ++ own) := ⟨_, rfl⟩
          have N22 : News g0 L0 h20 ((L0 + 1 + 1 + 1, oW) :: ((60, tabObj ps) :: ([] ++ fixed))) := fun p hp => N21 p (pm4 hfixed p hp)
          have cellW : (L0 + 1 + 1 + 1, oW) ∈ (L0 + 1 + 1 + 1, oW) :: ((60, tabObj ps) :: ([] ++ fixed)) := .head _
          have inFix : ∀ p ∈ fixed, p ∈ (L0 + 1 + 1 + 1, oW) :: ((60, tabObj ps) :: ([] ++ fixed)) := fun p hp => .tail _ (.tail _ hp)
          have hfW : ∀ p ∈ fixed, p.1 ≠ L0 + 1 + 1 + 1 := fun p hp => by
            refine fa8 (P := fun p => p ∈ fixed → p.1 ≠ L0 + 1 + 1 + 1) hfixed (fun hp => ?_) (fun hp => ?_) (fun _ => ?_) (fun _ => ?_) (fun hp => ?_) (fun hp => ?_) (fun p hp _ => ?_) (fun p hp _ => ?_) p hp hp
            · exact News.ne_data N22 (inFix _ hp) cellW (by rw [hT2, hdW]; nofun)
            · exact News.ne_data N22 (inFix _ hp) cellW (by rw [hdW]; nofun)
            · exact Nat.ne_of_lt (Nat.lt_succ_self _)
            · exact Nat.ne_of_lt (Nat.lt_succ_of_lt (Nat.lt_succ_self _))
            · exact News.ne_data N22 (inFix _ hp) cellW (by rw [hdW]; nofun)
            · exact News.ne_data N22 (inFix _ hp) cellW (by rw [hdW]; nofun)
            · exact Nat.ne_of_gt (hex p hp).1
            · exact hoffw p hp _ (.tail _ (.tail _ (by rw [List.map_append]; exact List.mem_append_right _ (.head _))))
          have h60f : ∀ p ∈ fixed, p.1 ≠ 60 := fun p hp => by
            have tab0 : (60, tabObj ps) ∈ (L0 + 1 + 1 + 1, oW) :: ((60, tabObj ps) :: ([] ++ fixed)) := .tail _ (.head _)
            refine fa8 (P := fun p => p ∈ fixed → p.1 ≠ 60) hfixed (fun hp => ?_) (fun hp => ?_) (fun _ => ?_) (fun _ => ?_) (fun hp => ?_) (fun hp => ?_) (fun p hp _ => ?_) (fun p hp _ => ?_) p hp hp
            · exact News.ne_data N22 (inFix _ hp) tab0 (by rw [hT2]; nofun)
            · exact News.ne_data N22 (inFix _ hp) tab0 nofun
            · exact Nat.ne_of_gt (Nat.lt_succ_of_lt (Nat.lt_succ_of_lt l60))
            · exact Nat.ne_of_gt (Nat.lt_succ_of_lt l60)
            · exact News.ne_data N22 (inFix _ hp) tab0 nofun
            · exact News.ne_data N22 (inFix _ hp) tab0 nofun
            · exact Nat.ne_of_gt (Nat.lt_trans (Nat.lt_succ_of_lt (Nat.lt_succ_of_lt (Nat.lt_succ_of_lt l60))) (hex p hp).1)
            · exact hoffw p hp _ (.tail _ (.head _))
          refine forTupC (base := g0) (c := L0 + 1 + 1 + 1) (its := #[.int 0 t1, .int 1 t2]) rfl rfl rfl rfl F21 N22 hdW ?_ hT1 ⟨_, hT2⟩ (WJ2 L0 ua sa us sides extra fixed fw) ⟨ps, [], true, rfl, htab, (fun _ h => nomatch h), rfl, rfl, rfl, rfl, by simp⟩ ?_ ?_ ?_
          · intro p hp
            rcases List.mem_cons.mp hp with rfl | hp
            · exact Nat.ne_of_lt (Nat.lt_succ_of_lt (Nat.lt_succ_of_lt (Nat.lt_succ_of_lt l60)))
            · exact hfW p hp
          · rintro i' m' nx ⟨ps2, ex2, b, rfl, _⟩
            exact .tail _ (List.mem_append_right _ (by rw [hfixed]; exact .head _))
          · intro i' v oV m₂ news₂ h gn tk own2 E'' hv hdv hJ2 hcn2 hoff2 F22 N23
            obtain ⟨ps2, ex2, b, rfl, htab2, hex2, e21, e22, e23, e24, hb⟩ := hJ2
            have F23 := Fr.put F22 [(Str.ofString "units", _), (Str.ofString "few", _), (Str.ofString "sides", _), (Str.ofString "rise", _)] ⟨e21, e22, e23, e24, trivial⟩
            simp only [putM] at F23
            change Fr g0 L0 h _ at F23
            change News g0 L0 h _ at N23
            have hi2 : i' < 2 := (Array.getElem?_eq_some_iff.mp hv).1
            obtain ⟨tv, rfl⟩ : ∃ tv, v = .int ((i' : Nat) : Int) tv := by
              rcases (show i' = 0 ∨ i' = 1 by omega) with rfl | rfl
              · exact ⟨t1, by simpa using hv.symm⟩
              · exact ⟨t2, by simpa using hv.symm⟩
            have hw01 : ((i' : Nat) : Int) = 0 ∨ ((i' : Nat) : Int) = 1 := by omega
            obtain ⟨R, hR⟩ : ∃ R, R = (T, oT) :: (ex2 ++ (extra ++ own) ++ own2) := ⟨_, rfl⟩
            have N24 : News g0 L0 h ((L0 + 1 + 1 + 1, oV) :: (L0 + 1 + 1, oWay) :: (L0 + 1, oA') :: (ua, listOf (List.toArray uvs) un) :: (sa, listOf (List.toArray wsv) 0) :: (D, listOf (List.toArray ys) ys.length) :: (60, tabObj ps2) :: R) := fun p hp => N23 p (pm6 hR hfixed p hp)
            have fixR : ∀ p ∈ fixed, p ∈ (L0 + 1 + 1 + 1, oV) :: (L0 + 1 + 1, oWay) :: (L0 + 1, oA') :: (ua, listOf (List.toArray uvs) un) :: (sa, listOf (List.toArray wsv) 0) :: (D, listOf (List.toArray ys) ys.length) :: (60, tabObj ps2) :: R := pm7t hR hfixed
            obtain ⟨exR, extraR, ownR⟩ := pm8 hR
            have h60W : (60 : Nat) ≠ L0 + 1 + 1 + 1 := Nat.ne_of_lt (Nat.lt_succ_of_lt (Nat.lt_succ_of_lt (Nat.lt_succ_of_lt l60)))
            clear F22 N23
            try clear F20
            try clear N20
            try clear F21
            try clear N13
            try clear F13
            cases b with
            | false =>
              k_steps
              show LEndC _ _ _ _ _ _ _
              refine wj2_end (us := us) (sides := sides) (i' := i') (s₁ := { s1 with heap := h, gens := gn, toks := tk }) (exN := []) (ps3 := ps2) F23 N24 (.head _) hdv (.tail _ (.tail _ (.tail _ (.tail _ (.tail _ (.tail _ (.head _))))))) (fun _ h => nomatch h) (fun p hp => .tail _ (.tail _ (.tail _ (.tail _ (.tail _ (.tail _ (.tail _ (exR p hp)))))))) fixR (fun p hp => .tail _ (.tail _ (.tail _ (.tail _ (.tail _ (.tail _ (.tail _ (ownR p hp)))))))) htab2 (.inl ⟨rfl, rfl⟩) hex2 (fun _ h => nomatch h) hoff2 hfW h60W rfl rfl rfl rfl ?_ id
              constructor
              · intro z; cases z
              · intro z; exact hb.mpr fun j hj => z j (by omega)
            | true =>
              have hb' := hb.mp rfl
              have pt := plain_text us sides ((i' : Nat) : Int) (husK ()) huo hsOk hw01
              have hokS : ∀ u ∈ sideOf us sides ((i' : Nat) : Int), PyData.strOk u = true := fun u hu => (huK u (sideOf_mem hu)).1
              have hneS : ∀ u ∈ sideOf us sides ((i' : Nat) : Int), 0 < u.length := fun u hu => (huK u (sideOf_mem hu)).2.2.1
              have hlenS : (sideOf us sides ((i' : Nat) : Int)).length ≤ 8 := Nat.le_trans (sideOf_len _ _ _) (by omega)
              have hwsl : wsv.length = us.length := by rw [hI21.length]; exact hsOk.len
              k_steps
              refine Halt.go (hand_c B0 F23 X0 N24 T0 rfl ua uvs us _ hst (.tail _ (.tail _ (.tail _ (.head _)))) sa wsv sides _ hI21 (.tail _ (.tail _ (.tail _ (.tail _ (.head _))))) hu5 hsOk.len (fun u hu => (huK u hu).2.2.2) _ _ pt.1 pt.2.1 pt.2.2.1 pt.2.2.2.1 (by ktr_room) (by ktr_room) (fun z => absurd z pt.2.2.2.2.1) fun _ h26 gn26 tk26 D1 hys k26 hhs hb26 F26 N26 hlt26 => ?_)
              rw [pt.2.2.2.2.2] at hhs
              clear F23 N24
              k_steps
              rename_i F27 N27
              refine Halt.go (listCompD F27 (by with_unfolding_all rfl) (by decide) rfl (by decide) ?_)
              k_steps
              refine Halt.go (zipComp F27 N27 rfl (.tail _ (.tail _ (.tail _ (.tail _ (.head _))))) (.tail _ (.tail _ (.tail _ (.tail _ (.tail _ (.head _)))))) hst hwsl (by omega) (fun _ => rfl) (fun _ => rfl) (fun _ => rfl) (by decide) (fun k => decide (sides.getD k 0 = ((i' : Nat) : Int))) ?_ ?_)
              · intro C D9 oC9 k9 m₂ zs nn h gn tk own9 E9 v2 t9 hk9 hv2 hoC hm1 hm2 hCD hDn hoff9 F' N'
                obtain ⟨tq, htq⟩ := ints_at hI21 k9 (by rw [hsOk.len]; exact hk9)
                rw [htq] at hv2
                cases hv2
                simp only [List.cons_append] at N'
                k_steps
                · with_reducible rename sides.getD k9 0 = _ => hq
                  exact ⟨_, _, _, rfl, F', N', fun _ h => h, decide_eq_true hq, _, rfl⟩
                · with_reducible rename sides.getD k9 0 ≠ _ => hq
                  exact ⟨_, _, _, rfl, F', N', fun _ h => h, decide_eq_false hq⟩
              · intro zs nn D9 h29 gn29 tk29 hzs F28 N28 hDlt hbr9
                have hzs' : StrsAre zs (sideOf us sides ((i' : Nat) : Int)) := hzs
                clear F27 N27
                try dsimp only
                k_steps
                refine Halt.go (neStrs N28 (.tail _ (.head _)) hhs (.head _) hzs' hokS hokS (by ktr_units) ?_)
                rw [decide_eq_true rfl]
                simp only [Bool.not_true]
                k_steps
                have hD19 : D1 ≠ 60 := News.ne_data N28 (.tail _ (.head _)) (.tail _ (.tail _ (.tail _ (.tail _ (.tail _ (.tail _ (.tail _ (.tail _ (.head _))))))))) nofun
                have hD99 : D9 ≠ 60 := News.ne_data N28 (.head _) (.tail _ (.tail _ (.tail _ (.tail _ (.tail _ (.tail _ (.tail _ (.tail _ (.head _))))))))) nofun
                have N29 : News g0 L0 h29 ((60, tabObj ps2) :: ((D9, listOf (List.toArray zs) nn) :: (D1, listOf (List.toArray hys) k26) :: (L0 + 1 + 1 + 1, oV) :: (L0 + 1 + 1, oWay) :: (L0 + 1, oA') :: (ua, listOf (List.toArray uvs) un) :: (sa, listOf (List.toArray wsv) 0) :: (D, listOf (List.toArray ys) ys.length) :: R)) := fun p hp => N28 p (pm9 p hp)
                have h60' : OwnOff ((D9, listOf (List.toArray zs) nn) :: (D1, listOf (List.toArray hys) k26) :: (L0 + 1 + 1 + 1, oV) :: (L0 + 1 + 1, oWay) :: (L0 + 1, oA') :: (ua, listOf (List.toArray uvs) un) :: (sa, listOf (List.toArray wsv) 0) :: (D, listOf (List.toArray ys) ys.length) :: R) [60] := by
                  intro q hq b' hb9
                  rw [List.mem_singleton.mp hb9]
                  rcases List.mem_cons.mp hq with rfl | hq
                  · exact hD99
                  rcases List.mem_cons.mp hq with rfl | hq
                  · exact hD19
                  rcases List.mem_cons.mp hq with rfl | hq
                  · exact Ne.symm h60W
                  rcases pm11 hR hfixed q hq with z | z | z
                  · exact h60f q z
                  · exact Nat.ne_of_gt (hex2 q z).1
                  · exact hoff2 q z _ (.tail _ (.head _))
                refine Halt.go (rises_c B0 F28 X0 N29 T0 rfl CH (htab2.mono fun p hp => .tail _ (.tail _ (.tail _ (.tail _ (.tail _ (.tail _ (.tail _ (.tail _ ((List.mem_append.mp hp).elim (exR p) (extraR p)))))))))) h60' D1 hys (sideOf us sides ((i' : Nat) : Int)) _ hhs (.tail _ (.head _)) hlenS hokS hneS (by ktr_room) (by ktr_room) fun h32 gn32 tk32 ps3 exN hb32 F32 N32 htab3 hex3 => ?_)
                k_steps
                rename_i F33 N33
                show LEndC _ _ _ _ _ _ _
                have restF : ∀ p ∈ fixed, p ∈ (D9, listOf (List.toArray zs) nn) :: (D1, listOf (List.toArray hys) k26) :: (L0 + 1 + 1 + 1, oV) :: (L0 + 1 + 1, oWay) :: (L0 + 1, oA') :: (ua, listOf (List.toArray uvs) un) :: (sa, listOf (List.toArray wsv) 0) :: (D, listOf (List.toArray ys) ys.length) :: R := fun p hp => .tail _ (.tail _ (.tail _ (pm7 hR hfixed p hp)))
                refine wj2_end (us := us) (sides := sides) (i' := i') (s₁ := { s1 with heap := h, gens := gn, toks := tk }) (exN := exN) (ps3 := ps3) F33 N33 (.tail _ (List.mem_append_right _ (.tail _ (.tail _ (.head _))))) hdv (.head _) (fun p hp => .tail _ (List.mem_append_left _ hp)) (fun p hp => .tail _ (List.mem_append_right _ (.tail _ (.tail _ (.tail _ (.tail _ (.tail _ (.tail _ (.tail _ (.tail _ (exR p hp)))))))))))
                  (fun p hp => .tail _ (List.mem_append_right _ (restF p hp))) (fun p hp => .tail _ (List.mem_append_right _ (.tail _ (.tail _ (.tail _ (.tail _ (.tail _ (.tail _ (.tail _ (.tail _ (ownR p hp))))))))))) htab2 htab3 hex2 ?_ hoff2 hfW h60W rfl rfl rfl rfl ?_ (fun z => hb32 (hbr9 (hb26 z)))
                · intro p hp
                  have q := hex3 p hp
                  exact ⟨⟨q.1, q.2 _ (.tail _ (.tail _ (.head _))), fun r hr => q.2 r (restF r hr)⟩, fun r hr => q.2 r (.tail _ (.tail _ (.tail _ (.tail _ (.tail _ (.tail _ (.tail _ (.tail _ (ownR r hr)))))))))⟩
                · constructor
                  · intro z j hj
                    by_cases e : j = i'
                    · subst e; exact of_decide_eq_true z
                    · exact hb' j (by omega)
                  · intro z; exact decide_eq_true (z i' (by omega))
          · intro oV vv m₂ news₂ h gn tk hdv hJ2 hcn2 F22 N23 hbr2
            obtain ⟨ps2, ex2, b, rfl, htab2, hex2, e21, e22, e23, e24, hb⟩ := hJ2
            have F23 := Fr.put F22 [(Str.ofString "units", _), (Str.ofString "few", _), (Str.ofString "sides", _), (Str.ofString "rise", _)] ⟨e21, e22, e23, e24, trivial⟩
            simp only [putM] at F23
            change Fr g0 L0 h _ at F23
            change News g0 L0 h _ at N23
            have N24 : News g0 L0 h ((L0 + 1 + 1 + 1, oV) :: (L0 + 1 + 1, oWay) :: (L0 + 1, oA') :: (ua, listOf (List.toArray uvs) un) :: (sa, listOf (List.toArray wsv) 0) :: (D, listOf (List.toArray ys) ys.length) :: (60, tabObj ps2) :: (T, oT) :: (ex2 ++ (extra ++ own))) := fun p hp => N23 p (pm12 hfixed p hp)
            clear F22 N23
            try clear F20
            try clear N20
            try clear F21
            try clear N13
            try clear F13
            have pr := plain_rise us sides huo hsOk
            rw [hword] at pr
            have hb2 : b = true ↔ (fewL word = [] ∧ fitsS word sides) := by
              rw [hb, ← pr]
              constructor
              · intro z; exact ⟨z 0 (show (0 : Nat) < 2 by decide), z 1 (show (1 : Nat) < 2 by decide)⟩
              · intro z j hj
                rcases (show j = 0 ∨ j = 1 by have : j < 2 := hj; omega) with rfl | rfl
                · exact z.1
                · exact z.2
            have wEnd : ∀ {h' : Heap} {gn' : Array GenState} {tk' : Nat} {m' : Str → Option Value} {nw : List (Addr × Obj)}, Fr g0 L0 h' m' → News g0 L0 h' nw → (∀ p ∈ (L0 + 1 + 1 + 1, oV) :: (L0 + 1 + 1, oWay) :: (L0 + 1, oA') :: (ua, listOf (List.toArray uvs) un) :: (sa, listOf (List.toArray wsv) 0) :: (D, listOf (List.toArray ys) ys.length) :: (60, tabObj ps2) :: (T, oT) :: (ex2 ++ (extra ++ own)), p ∈ nw) →
                m' (Str.ofString "units") = some (.ref ua) → m' (Str.ofString "few") = some (.bool fw) → (AllBare gn → AllBare gn') →
                LEndC g0 L0 (L0 + 1 + 1) (WJ L0 D ua [(D, listOf (List.toArray ys) ys.length), (ua, listOf (List.toArray uvs) un), (L0 + 1, oA')] fw (i + 1)) own { s1 with heap := hO, gens := gnO, toks := tkO } { s1 with heap := h', gens := gn', toks := tk' } := by
              intro h' gn' tk' m' nw F' N' hsub b1 b2 b3
              obtain ⟨hDf, huf, howf⟩ := pm13 hfixed
              refine ⟨h', gn', tk', m', nw, (60, tabObj ps2) :: ((ex2 ++ extra) ++ ((L0 + 1 + 1 + 1, oV) :: [(D, listOf (List.toArray ys) ys.length), (ua, listOf (List.toArray uvs) un), (L0 + 1, oA')])), oWay, _, rfl, fun z => b3 (hbr2 z), F', N', hsub _ (.tail _ (.head _)), hdw, ?_, ?_, ?_, ?_, ps2, ex2 ++ extra, oV, vv, rfl, hdv, htab2, ?_, b1, b2⟩
              · intro p hp
                exact hsub p (pm14 p hp)
              · refine fa7 ?_ (fun p z => ?_) (fun p z => ?_) ?_ ?_ ?_ ?_
                · exact Nat.ne_of_lt (Nat.lt_succ_of_lt (Nat.lt_succ_of_lt l60))
                · exact Nat.ne_of_gt (Nat.lt_trans (Nat.lt_succ_self _) (hex2 p z).2.1)
                · exact Nat.ne_of_gt (Nat.lt_trans (Nat.lt_succ_self _) (hex p z).1)
                · exact Nat.ne_of_gt (Nat.lt_succ_self _)
                · exact fun e => hoffD.2.2.1 e.symm
                · exact Nat.ne_of_gt hlt2.2.1
                · exact Nat.ne_of_lt (Nat.lt_succ_self _)
              · intro p hp
                exact hsub p (.tail _ (.tail _ (.tail _ (.tail _ (.tail _ (.tail _ (.tail _ (.tail _ (List.mem_append_right _ (List.mem_append_right _ hp))))))))))
              · intro q hq c hc
                obtain ⟨o1, o2, o3, o4, o5, o6⟩ := pm18 (hoffw q hq)
                obtain ⟨p, hp, rfl⟩ := List.mem_map.mp hc
                exact fa7 (P := fun p => q.1 ≠ p.1) o1 (fun p hp => Nat.ne_of_lt ((hex2 p hp).2.2 q (howf q hq))) o2 o3 o4 o5 o6 p hp
              · intro p hp
                rcases List.mem_append.mp hp with z | z
                · exact ⟨(hex2 p z).2.1, (hex2 p z).2.2 _ hDf, (hex2 p z).2.2 _ huf⟩
                · exact hex p z
            try dsimp only
            k_steps
            · with_reducible rename fw = true => hfw
              refine Halt.go (fits_c B0 F23 X0 N24 T0 rfl D ys word _ (hwK ()) (.tail _ (.tail _ (.tail _ (.tail _ (.tail _ (.head _)))))) sa wsv sides _ hI21 (.tail _ (.tail _ (.tail _ (.tail _ (.head _))))) (by omega) (by rw [hsOk.len, hwl]) hsOk.bits (by ktr_room) (by ktr_room) fun h35 gn35 tk35 bb hbb hb35 F35 N35 => ?_)
              have hfewT : fewL word = [] := by rw [hfw] at hfew; exact of_decide_eq_true hfew
              have hbe : b = bb := by
                rw [Bool.eq_iff_iff, hb2, hbb]
                exact ⟨fun z => z.2, fun z => ⟨hfewT, z⟩⟩
              subst hbe
              k_steps
              · exfalso
                with_reducible rename (_ != _) = true => z
                simp at z
              · exact wEnd F35 N35 (fun _ h => h) rfl rfl hb35
            · exfalso
              with_reducible rename fw = false => hfw
              with_reducible rename (_ != _) = true => z
              have hbe : b = false := by
                cases b with
                | false => rfl
                | true =>
                  have z := (hb2.mp rfl).1
                  rw [hfw] at hfew
                  exact absurd z (of_decide_eq_false hfew)
              rw [hfw, hbe] at z
              simp at z
            · exact wEnd F23 N24 (fun _ h => h) rfl rfl id
      · intro oWay vv m₁ news₁ h gn tk hd hJw hcn F10 N11 hbr
        obtain ⟨ps, extra, oW, vW, rfl, hdW, htab, hex, e1, e2⟩ := hJw
        try dsimp only
        k_steps
        show EndP g0 s1 60 (.ok (.ret (.bool true))) { s1 with heap := h, gens := gn, toks := tk }
        refine ⟨rfl, fun b o e => F10.keep b o e, rfl, hbr (hbr8 (hbr2 (.of_eq hg))), ps, ?_⟩
        exact (N11 (60, tabObj ps) (.tail _ (.head _))).1
end
end
end MineTop
theorem PySem.Challenge.cw_pg0087_01_holds : PySem.Challenge.rw_pg0087_01.Holds := by
  exact MineTop.L1 ()
