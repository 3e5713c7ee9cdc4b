import PyProof.Rows.All
import Wide.All
import OpenK.AllK
import Wide.FinOn
import PySem.Challenge.RW_ta0015_01
set_option Elab.async false

section
open PySem PySem.W PyProof.Rows
set_option Elab.async false
set_option maxRecDepth 100000
set_option maxHeartbeats 8000000
namespace Mine
open_top hd for PySem.Challenge.rw_ta0015_01
end Mine
end

section
open PySem PySem.W PyProof.Rows
set_option Elab.async false
set_option maxRecDepth 100000
namespace Mine
open PySem.Calls

abbrev LS : List Str := [Str.ofString "_twin_re_1", Str.ofString "_twin_re_2", Str.ofString "tspecials", Str.ofString "_formatparam"]
abbrev TP (mean : ExcName → Option Value) (mg mb : Str → Option Value) (h : Heap) : Prop := Top hd.view_39 (looseW hd.view_39 LS) mean mg mb h
abbrev AR (hdl : Option Value) (dp un : Nat) (fr : Option (List Env)) (gd : Option (List Code)) : Around := { handled := hdl, depth := dp, frames := fr, guards := gd, units := un }

theorem enter {prog : Program} {w : World} {A : Around} {s : Shared} {K : Frag} {p : Program} {loose : List Str} {mean : ExcName → Option Value} {mg mb : Str → Option Value}
    {R : Result → Shared → Prop} {name qual : Str} {params : Arguments} {body : List Stmt} {scope : Scope} {dV kV doc pm cdv ct oc : Value} {an od : Option Addr} {osl : Array (Option Value)} {f : Addr} {args : Args} {binds : List (Str × Value)}
    (X : K.In s.heap) (T : Top p loose mean mg mb s.heap)
    (ho : K.lookup f = some ⟨oc, od, .func (fnOf name qual params body scope dV kV doc pm an cdv ct), osl⟩) (hcd : codeIn K cdv qual = true) (hroom : A.depth < recursionLimit)
    (hbind : BindsTo s (fnOf name qual params body scope dV kV doc pm an cdv ct) args binds) (hloc : ∀ y ∈ binds, scope.names.lookup y.1 = some .local)
    (h : ∀ L h₁, Fr s.heap L h₁ (fun y => binds.reverse.lookup y) → News s.heap L h₁ [] →
      wpAny (model prog w) (A.deeper (envOf qual scope L f cdv)) (execs body (envOf qual scope L f cdv))
        (fun fl s' => R (.ok (.ret (match fl with | .ret v => v | _ => .none))) s') (fun _ _ => False)
        { s with heap := h₁, toks := s.toks + binds.length })
    (hco : scope.isCoroutine = false := by rfl) (hgen : scope.isGenerator = false := by rfl) (hk : scope.kind = .function := by rfl)
    (hcell : ∀ x ∈ scope.names, x.2 ≠ .cell := by decide) : codeAny (model prog w) A (.call (.ref f) args) R s := by
  refine codeAny_call_def (fd := fnOf name qual params body scope dV kV doc pm an cdv ct) (body := body) (binds := binds) hroom (X _ _ ho) rfl T.nolimit (codeRec_of X hcd) rfl hbind hcell hloc (fun h₁ hns hk₁ => ?_) hco hgen hk
  exact wpAny_mono (h s.heap.objs.size h₁ ⟨hns, hk₁, Nat.le_refl _⟩ News.nil) (fun _ _ x => x) fun _ _ x => x.elim

theorem roomA {hdl : Option Value} {dp un : Nat} {fr : Option (List Env)} {gd : Option (List Code)} (h : dp < 700) : (AR hdl dp un fr gd).depth < recursionLimit := Nat.lt_trans h (by decide)
theorem room {dp : Nat} (h : dp < 700) : dp < recursionLimit := Nat.lt_trans h (by decide)

/-- what a call hands back that makes a new list of ints -/
def BackInts (s : Shared) (R : Result → Shared → Prop) (ns : List Int) : Prop :=
  ∀ (h' : Heap) (tk a n : Nat) (vs : List Value), (∀ b o, s.heap.get? b = some o → h'.get? b = some o) → s.heap.get? a = none → h'.get? a = some (listOf vs.toArray n) → IntsAre vs ns → R (.ok (.ret (.ref a))) { s with heap := h', toks := tk }
/-- what a call hands back that makes a text -/
def BackStr (s : Shared) (R : Result → Shared → Prop) (x : Str) : Prop :=
  ∀ (h' : Heap) (tk t : Nat), (∀ b o, s.heap.get? b = some o → h'.get? b = some o) → R (.ok (.ret (.str x t))) { s with heap := h', toks := tk }

section
variable {M : Model} {A : Around} {E : Value → Shared → Prop} {s : Shared} {h₀ : Heap} {L : Addr} {m : Str → Option Value} {news : List (Addr × Obj)} {f : Value} {args : List Value} {Q : Value → Shared → Prop}
theorem news_add {h' : Heap} {a : Addr} {o : Obj} (F : Fr h₀ L s.heap m) (N : News h₀ L s.heap news) (hk : ∀ b o, s.heap.get? b = some o → h'.get? b = some o) (hn : s.heap.get? a = none) (ha : h'.get? a = some o) :
    Fr h₀ L h' m ∧ News h₀ L h' ((a, o) :: news) ∧ ∀ p ∈ news, p.1 ≠ a := by
  obtain ⟨oL, es, ep, hL, r⟩ := F.ns
  have hne : ∀ b ob, s.heap.get? b = some ob → b ≠ a := fun b ob e q => by rw [q, hn] at e; cases e
  refine ⟨⟨⟨oL, es, ep, hk _ _ hL, r⟩, fun b ob e => hk _ _ (F.keep b ob e), F.above⟩, fun p hp => ?_, fun p hp => hne _ _ (N p hp).1⟩
  rcases List.mem_cons.mp hp with rfl | hp
  · refine ⟨ha, fun q => hne _ _ hL q.symm, ?_⟩
    cases e : h₀.get? a with
    | none => rfl
    | some ob => exact absurd rfl (hne _ _ (F.keep _ _ e))
  · exact ⟨hk _ _ (N p hp).1, (N p hp).2⟩
theorem callInts {ns : List Int} (F : Fr h₀ L s.heap m) (N : News h₀ L s.heap news) (hc : ∀ R, BackInts s R ns → codeAny M A (.call f ⟨args, []⟩) R s)
    (h : ∀ (h' : Heap) (tk a n : Nat) (vs : List Value), Fr h₀ L h' m → News h₀ L h' ((a, listOf vs.toArray n) :: news) → (∀ p ∈ news, p.1 ≠ a) → IntsAre vs ns → Q (.ref a) { s with heap := h', toks := tk }) :
    wpAny M A (call f args) Q E s :=
  wpAny_call (hc _ fun h' tk a n vs hk hn ha hi => let ⟨F', N', hne⟩ := news_add F N hk hn ha; h h' tk a n vs F' N' hne hi)
theorem callStr {x : Str} (F : Fr h₀ L s.heap m) (N : News h₀ L s.heap news) (hc : ∀ R, BackStr s R x → codeAny M A (.call f ⟨args, []⟩) R s)
    (h : ∀ (h' : Heap) (tk t : Nat), Fr h₀ L h' m → News h₀ L h' news → Q (.str x t) { s with heap := h', toks := tk }) :
    wpAny M A (call f args) Q E s :=
  wpAny_call (hc _ fun h' tk t hk => by
    obtain ⟨oL, es, ep, hL, r⟩ := F.ns
    exact h h' tk t ⟨⟨oL, es, ep, hk _ _ hL, r⟩, fun b ob e => hk _ _ (F.keep b ob e), F.above⟩ fun p hp => ⟨hk _ _ (N p hp).1, (N p hp).2⟩)
end
end Mine
end

section
open PySem PySem.W PyProof.Rows
set_option Elab.async false
set_option maxRecDepth 100000
namespace Mine
open PySem.Calls

structure Sta where
  vs : List Value
  ns : List Int
  k : Nat
  ps : List (Str × Value)
@[reducible] def led1 (l : Addr) (c : Sta) : List (Addr × Obj) := [(l, listOf c.vs.toArray c.k)]
@[reducible] def led0 (_ : Sta) : List (Addr × Obj) := []
@[reducible] def staPs (c : Sta) : List (Str × Value) := c.ps
def PsAre (m : Str → Option Value) : List (Str × Value) → Prop
  | [] => True
  | p :: r => m p.1 = some p.2 ∧ PsAre m r
theorem ps0 {m : Str → Option Value} : PsAre m [] := True.intro
theorem ps1 {m : Str → Option Value} (x : Str) {v : Value} (h : m x = some v) : PsAre m [(x, v)] := ⟨h, trivial⟩
theorem ps2 {m : Str → Option Value} (x y : Str) {v u : Value} (h : m x = some v) (g : m y = some u) : PsAre m [(x, v), (y, u)] := ⟨h, g, trivial⟩
theorem PsAre.all {m : Str → Option Value} : ∀ {ps : List (Str × Value)}, PsAre m ps → ∀ p ∈ ps, m p.1 = some p.2
  | _ :: _, h, _, .head _ => h.1
  | _ :: _, h, _, .tail _ hp => h.2.all _ hp

section
variable {h₀ h' : Heap} {L l : Addr} {x : Str} {stored : List Str} {m₀ m' : Str → Option Value} {own news' : List (Addr × Obj)} {P : List Int → Sta → Prop} {pre : List Int} {s₁ : Shared} {tk : Nat}
theorem end1 {ps' : List (Str × Value)} (ns : List Int) {items : Array Value} {k : Nat} (F : Fr h₀ L h' m') (N : News h₀ L h' news') (hv : PsAre m' ps') (hl : (l, listOf items k) ∈ news') (ho : ∀ p ∈ own, p ∈ news')
    (hr : ∀ z, z ≠ x → (∀ p ∈ ps', z ≠ p.1) → stored.contains z = false → m' z = m₀ z) (hp : P pre ⟨items.toList, ns, k, ps'⟩) :
    InvEndN h₀ L (KstS (led1 l) staPs (fun _ => True) x stored m₀ P pre) own [l] s₁ { s₁ with heap := h', toks := tk } :=
  kst_end ⟨items.toList, ns, k, ps'⟩ F N (fun p hp => by rw [List.mem_singleton.mp hp]; simpa using hl) ho rfl trivial hv.all hr hp
theorem end0 {ps' : List (Str × Value)} (F : Fr h₀ L h' m') (N : News h₀ L h' news') (hv : PsAre m' ps') (ho : ∀ p ∈ own, p ∈ news')
    (hr : ∀ z, z ≠ x → (∀ p ∈ ps', z ≠ p.1) → stored.contains z = false → m' z = m₀ z) (hp : P pre ⟨[], [], 0, ps'⟩) :
    InvEndN h₀ L (KstS led0 staPs (fun _ => True) x stored m₀ P pre) own [] s₁ { s₁ with heap := h', toks := tk } :=
  kst_end ⟨[], [], 0, ps'⟩ F N (fun p hp => nomatch hp) ho rfl trivial hv.all hr hp
end

section
variable {prog : Program} {w : World} {A : Around} {E : Value → Shared → Prop} {s : Shared} {env : Env} {h₀ : Heap} {x : Str} {body : List Stmt} {Q : Flow → Shared → Prop}

theorem loopText0  {xt : Str} {tx : Tok} {m₀ : Str → Option Value} {ps₀ : List (Str × Value)} (stored : List Str) (P : List Int → Sta → Prop) 
    (hh : A.handled = none)  (F : Fr h₀ env.locals s.heap m₀) (N : News h₀ env.locals s.heap (led0 ⟨[], [], 0, ps₀⟩)) (hk : PsAre m₀ ps₀) (hp : P [] ⟨[], [], 0, ps₀⟩)
    (turn : ∀ (c : Sta) (pre post : List Int) (n : Nat) t (u : Str → Option Value) h tk own, KStt.codes xt = pre ++ (n : Int) :: post → OwnOff own ((led0 ⟨[], [], 0, ps₀⟩).map (·.1)) → P pre c →
      Fr h₀ env.locals h (fun y => if y = x then some (.str ⟨#[n]⟩ t) else kstB (fun z => if stored.contains z then u z else m₀ z) c.ps y) → News h₀ env.locals h (led0 c ++ own) →
      wpAny (model prog w) A (execs body env) (InvPostN h₀ env.locals (KstS (led0) staPs (fun _ => True) x stored m₀ P (pre ++ [(n : Int)])) own ((led0 ⟨[], [], 0, ps₀⟩).map (·.1)) { s with heap := h, toks := tk } Q) E { s with heap := h, toks := tk })
    (done : ∀ (c : Sta) (u : Str → Option Value) h tk, P (KStt.codes xt) c → Fr h₀ env.locals h (fun y => if y = x then u y else kstB (fun z => if stored.contains z then u z else m₀ z) c.ps y) → News h₀ env.locals h (led0 c) → Q .next { s with heap := h, toks := tk }) :
    wpAny (model prog w) A (pyIter (.str xt tx)) (fun it s₂ => LoopAtV prog w A h₀ env x body Q E it s₂) E s :=
  KStt.kst_text (led0) staPs (fun _ => True) stored P ⟨[], [], 0, ps₀⟩ hh  F N trivial hk.all hp (fun c pre post n t u h tk own e ho _ hP F N => turn c pre post n t u h tk own e ho hP F N) (fun c u h tk _ hP F N => done c u h tk hP F N)

theorem loopList0  {l : Addr} {vs : List Value} {ns : List Int} {m₀ : Str → Option Value} {ps₀ : List (Str × Value)} (stored : List Str) (P : List Int → Sta → Prop) 
    (hh : A.handled = none) (hl : h₀.IsList l vs.toArray) (hi : IntsAre vs ns) (F : Fr h₀ env.locals s.heap m₀) (N : News h₀ env.locals s.heap (led0 ⟨[], [], 0, ps₀⟩)) (hk : PsAre m₀ ps₀) (hp : P [] ⟨[], [], 0, ps₀⟩)
    (turn : ∀ (c : Sta) (pre post : List Int) (n : Int) t (u : Str → Option Value) h tk own, ns = pre ++ n :: post → OwnOff own ((led0 ⟨[], [], 0, ps₀⟩).map (·.1)) → P pre c →
      Fr h₀ env.locals h (fun y => if y = x then some (.int n t) else kstB (fun z => if stored.contains z then u z else m₀ z) c.ps y) → News h₀ env.locals h (led0 c ++ own) →
      wpAny (model prog w) A (execs body env) (InvPostN h₀ env.locals (KstS (led0) staPs (fun _ => True) x stored m₀ P (pre ++ [n])) own ((led0 ⟨[], [], 0, ps₀⟩).map (·.1)) { s with heap := h, toks := tk } Q) E { s with heap := h, toks := tk })
    (done : ∀ (c : Sta) (u : Str → Option Value) h tk, P (ns) c → Fr h₀ env.locals h (fun y => if y = x then u y else kstB (fun z => if stored.contains z then u z else m₀ z) c.ps y) → News h₀ env.locals h (led0 c) → Q .next { s with heap := h, toks := tk }) :
    wpAny (model prog w) A (pyIter (.ref l)) (fun it s₂ => LoopAtV prog w A h₀ env x body Q E it s₂) E s :=
  kst_list (led0) staPs (fun _ => True) stored P ⟨[], [], 0, ps₀⟩ hh hl hi F N trivial hk.all hp (fun c pre post n t u h tk own e _ ho _ hP F N => turn c pre post n t u h tk own e ho hP F N) (fun c u h tk _ hP F N => done c u h tk hP F N)

theorem loopText1 {l₁ : Addr} {xt : Str} {tx : Tok} {m₀ : Str → Option Value} {ps₀ : List (Str × Value)} (stored : List Str) (P : List Int → Sta → Prop) (vs₀ : List Value) (ns₀ : List Int) (k₀ : Nat)
    (hh : A.handled = none)  (F : Fr h₀ env.locals s.heap m₀) (N : News h₀ env.locals s.heap (led1 l₁ ⟨vs₀, ns₀, k₀, ps₀⟩)) (hk : PsAre m₀ ps₀) (hp : P [] ⟨vs₀, ns₀, k₀, ps₀⟩)
    (turn : ∀ (c : Sta) (pre post : List Int) (n : Nat) t (u : Str → Option Value) h tk own, KStt.codes xt = pre ++ (n : Int) :: post → OwnOff own ((led1 l₁ ⟨vs₀, ns₀, k₀, ps₀⟩).map (·.1)) → P pre c →
      Fr h₀ env.locals h (fun y => if y = x then some (.str ⟨#[n]⟩ t) else kstB (fun z => if stored.contains z then u z else m₀ z) c.ps y) → News h₀ env.locals h (led1 l₁ c ++ own) →
      wpAny (model prog w) A (execs body env) (InvPostN h₀ env.locals (KstS (led1 l₁) staPs (fun _ => True) x stored m₀ P (pre ++ [(n : Int)])) own ((led1 l₁ ⟨vs₀, ns₀, k₀, ps₀⟩).map (·.1)) { s with heap := h, toks := tk } Q) E { s with heap := h, toks := tk })
    (done : ∀ (c : Sta) (u : Str → Option Value) h tk, P (KStt.codes xt) c → Fr h₀ env.locals h (fun y => if y = x then u y else kstB (fun z => if stored.contains z then u z else m₀ z) c.ps y) → News h₀ env.locals h (led1 l₁ c) → Q .next { s with heap := h, toks := tk }) :
    wpAny (model prog w) A (pyIter (.str xt tx)) (fun it s₂ => LoopAtV prog w A h₀ env x body Q E it s₂) E s :=
  KStt.kst_text (led1 l₁) staPs (fun _ => True) stored P ⟨vs₀, ns₀, k₀, ps₀⟩ hh  F N trivial hk.all hp (fun c pre post n t u h tk own e ho _ hP F N => turn c pre post n t u h tk own e ho hP F N) (fun c u h tk _ hP F N => done c u h tk hP F N)

theorem loopList1 {l₁ : Addr} {l : Addr} {vs : List Value} {ns : List Int} {m₀ : Str → Option Value} {ps₀ : List (Str × Value)} (stored : List Str) (P : List Int → Sta → Prop) (vs₀ : List Value) (ns₀ : List Int) (k₀ : Nat)
    (hh : A.handled = none) (hl : h₀.IsList l vs.toArray) (hi : IntsAre vs ns) (F : Fr h₀ env.locals s.heap m₀) (N : News h₀ env.locals s.heap (led1 l₁ ⟨vs₀, ns₀, k₀, ps₀⟩)) (hk : PsAre m₀ ps₀) (hp : P [] ⟨vs₀, ns₀, k₀, ps₀⟩)
    (turn : ∀ (c : Sta) (pre post : List Int) (n : Int) t (u : Str → Option Value) h tk own, ns = pre ++ n :: post → OwnOff own ((led1 l₁ ⟨vs₀, ns₀, k₀, ps₀⟩).map (·.1)) → P pre c →
      Fr h₀ env.locals h (fun y => if y = x then some (.int n t) else kstB (fun z => if stored.contains z then u z else m₀ z) c.ps y) → News h₀ env.locals h (led1 l₁ c ++ own) →
      wpAny (model prog w) A (execs body env) (InvPostN h₀ env.locals (KstS (led1 l₁) staPs (fun _ => True) x stored m₀ P (pre ++ [n])) own ((led1 l₁ ⟨vs₀, ns₀, k₀, ps₀⟩).map (·.1)) { s with heap := h, toks := tk } Q) E { s with heap := h, toks := tk })
    (done : ∀ (c : Sta) (u : Str → Option Value) h tk, P (ns) c → Fr h₀ env.locals h (fun y => if y = x then u y else kstB (fun z => if stored.contains z then u z else m₀ z) c.ps y) → News h₀ env.locals h (led1 l₁ c) → Q .next { s with heap := h, toks := tk }) :
    wpAny (model prog w) A (pyIter (.ref l)) (fun it s₂ => LoopAtV prog w A h₀ env x body Q E it s₂) E s :=
  kst_list (led1 l₁) staPs (fun _ => True) stored P ⟨vs₀, ns₀, k₀, ps₀⟩ hh hl hi F N trivial hk.all hp (fun c pre post n t u h tk own e _ ho _ hP F N => turn c pre post n t u h tk own e ho hP F N) (fun c u h tk _ hP F N => done c u h tk hP F N)

end
theorem ints_snoc {vs : List Value} {ns : List Int} {n : Int} {t : Tok} (h : IntsAre vs ns) : IntsAre (vs ++ [.int n t]) (ns ++ [n]) := by
  induction h with
  | nil => exact .cons _ _ .nil
  | cons a u _ ih => exact .cons _ _ ih
theorem ints_app {vs us : List Value} {ns ms : List Int} (h : IntsAre vs ns) (g : IntsAre us ms) : IntsAre (vs ++ us) (ns ++ ms) := by
  induction h with
  | nil => exact g
  | cons a u _ ih => exact .cons _ _ ih

def Stop (P : Prop) : Prop := P
theorem stop {P : Prop} (h : Stop P) : P := h
theorem goOn {P : Prop} (h : P) : Stop P := h
section
variable {prog : Program} {w : World} {A : Around} {E : Value → Shared → Prop} {s : Shared} {h₀ : Heap} {L : Addr} {m : Str → Option Value}
theorem extendK {D b : Addr} {its its2 : Array Value} {n n2 : Nat} {rest : List (Addr × Obj)} {Q : Value → Shared → Prop} (F : Fr h₀ L s.heap m) (N : News h₀ L s.heap ((b, listOf its2 n2) :: (D, listOf its n) :: rest)) (hne : ∀ p ∈ (D, listOf its n) :: rest, p.1 ≠ b)
    (hap : ∀ p ∈ rest, p.1 ≠ D) (hsz : its.size + its2.size ≤ 1000000)
    (h : ∀ h' n', Fr h₀ L h' m → News h₀ L h' ((D, listOf (its ++ its2) n') :: rest) → Q .none { s with heap := h' }) : wpAny (model prog w) A (call (.builtin "list.extend") [.ref D, .ref b]) Q E s := by
  have N' : News h₀ L s.heap ([(b, listOf its2 n2)] ++ (D, { cls := .type "list", data := .seq its.toList.toArray n }) :: rest) := by simpa using N
  refine extend_in (ys := its.toList) (n := n) F N' (fun p hp => ?_) hap (N _ (.head _)).1 (fun h' n' F' N'' => ?_) (by rw [Array.length_toList, sizeLine_eq]; omega)
  · rw [List.mem_singleton.mp hp]; exact (hne _ (.head _)).symm
  · refine h h' n' F' ?_
    have e : (its.toList ++ its2.toList).toArray = its ++ its2 := by simp
    rw [e] at N''
    exact fun p hp => N'' p (List.mem_append_right _ hp)
end

section
variable {prog : Program} {w : World} {A : Around} {E : Value → Shared → Prop} {Q : Flow → Shared → Prop} {s : Shared} {env : Env} {h₀ : Heap} {L : Addr}
theorem loopWhile {σ : Type} {test : Expr} {body : List Stmt} {pos : Pos} {m₀ : Str → Option Value} (Led : σ → List (Addr × Obj)) (ps : σ → List (Str × Value)) (stored : List Str) (P : σ → Prop) (μ : σ → Nat) (c₀ : σ)
    (F : Fr h₀ L s.heap m₀) (N : News h₀ L s.heap (Led c₀)) (hk : PsAre m₀ (ps c₀)) (hp : P c₀)
    (turn : ∀ (c : σ) (u : Str → Option Value) h tk, P c → Fr h₀ L h (kstB (fun z => if stored.contains z then u z else m₀ z) (ps c)) → News h₀ L h (Led c) →
      wpAny (model prog w) A (isTrue test env (eval test env)) (fun b s₂ =>
        if b = true then wpAny (model prog w) A (execs body env) (KswPost h₀ L s Led ps (fun _ => True) stored m₀ P μ Q c) E s₂ else Q .next s₂) E { s with heap := h, toks := tk })
    (hE : PassesOwn (model prog w) A env E) :
    wpAny (model prog w) A (exec (.While test body [] pos) env) Q E s :=
  ksw_while Led ps (fun _ => True) stored P μ c₀ F N trivial hk.all hp (fun c u h tk _ hP F N => turn c u h tk hP F N) hE
theorem endWhile {σ : Type} {Led : σ → List (Addr × Obj)} {ps : σ → List (Str × Value)} {stored : List Str} {m₀ m' : Str → Option Value} {P : σ → Prop} {μ : σ → Nat} {c : σ} {h' : Heap} {tk : Nat} {news' : List (Addr × Obj)} (c' : σ)
    (F : Fr h₀ L h' m') (N : News h₀ L h' news') (hn : ∀ p ∈ Led c', p ∈ news') (hk : PsAre m' (ps c')) (hr : ∀ z, (∀ p ∈ ps c', z ≠ p.1) → stored.contains z = false → m' z = m₀ z) (hp : P c') (hm : μ c' < μ c) :
    KswEnd h₀ L s Led ps (fun _ => True) stored m₀ P μ c { s with heap := h', toks := tk } := ksw_end c' F N hn trivial hk.all hr hp hm
end

def CutL (s : Shared) (h₀ : Heap) (L : Addr) (m : Str → Option Value) (l : Addr) (own : List (Addr × Obj)) (ns : List Int) (fl : Flow) (s' : Shared) : Prop :=
  fl = .next ∧ ∃ (h' : Heap) (tk : Nat) (items : Array Value) (k : Nat), s' = { s with heap := h', toks := tk } ∧ Fr h₀ L h' m ∧ News h₀ L h' ((l, listOf items k) :: own) ∧ IntsAre items.toList ns
section
variable {M : Model} {A : Around} {E : Value → Shared → Prop} {s : Shared} {h₀ : Heap} {L l : Addr} {m : Str → Option Value} {own : List (Addr × Obj)}
theorem cutL {t : Sem Flow} {Q : Flow → Shared → Prop} {items : Array Value} {k : Nat} (ns : List Int) (_F : Fr h₀ L s.heap m) (_N : News h₀ L s.heap ((l, listOf items k) :: own))
    (h1 : wpAny M A t (CutL s h₀ L m l own ns) E s)
    (h2 : ∀ (h' : Heap) (tk : Nat) (items : Array Value) (k : Nat), Fr h₀ L h' m → News h₀ L h' ((l, listOf items k) :: own) → IntsAre items.toList ns → Q .next { s with heap := h', toks := tk }) : wpAny M A t Q E s :=
  wpAny_mono h1 (fun _ _ ⟨e, h', tk, items, k, e', F, N, hi⟩ => by subst e; subst e'; exact h2 h' tk items k F N hi) fun _ _ x => x
theorem cutEnd {h' : Heap} {tk : Nat} {news' : List (Addr × Obj)} {items : Array Value} {k : Nat} {ns : List Int} {m' : Str → Option Value} (F : Fr h₀ L h' m') (N : News h₀ L h' news') (hn : ∀ p ∈ (l, listOf items k) :: own, p ∈ news') (hm : m' = m)
    (hi : IntsAre items.toList ns) : CutL s h₀ L m l own ns .next { s with heap := h', toks := tk } := ⟨rfl, h', tk, items, k, rfl, hm ▸ F, fun p hp => N p (hn p hp), hi⟩
end
theorem ints_push {items : Array Value} {ns : List Int} {n : Int} {t : Tok} (h : IntsAre items.toList ns) : IntsAre (items.push (.int n t)).toList (ns ++ [n]) := by rw [Array.toList_push]; exact ints_snoc h
theorem ints_cat {items items2 : Array Value} {ns ms : List Int} (h : IntsAre items.toList ns) (g : IntsAre items2.toList ms) : IntsAre (items ++ items2).toList (ns ++ ms) := by rw [Array.toList_append]; exact ints_app h g

theorem allLtNe {d : Addr} {l : List (Addr × Obj)} (h : AllLt d l) : ∀ p ∈ l, p.1 ≠ d := by
  induction l with
  | nil => intro p hp; cases hp
  | cons q r ih =>
    intro p hp
    rcases List.mem_cons.mp hp with rfl | hp
    · exact Nat.ne_of_lt h.1
    · exact ih h.2 p hp
section
variable {prog : Program} {w : World} {A : Around} {E : Value → Shared → Prop} {s : Shared} {h₀ : Heap} {L : Addr} {m : Str → Option Value}
theorem extendL {D b : Addr} {its its2 : Array Value} {n n2 : Nat} {rest : List (Addr × Obj)} {Q : Value → Shared → Prop} (F : Fr h₀ L s.heap m) (N : News h₀ L s.heap ((b, listOf its2 n2) :: (D, listOf its n) :: rest)) (hne : D < b ∧ AllLt b rest)
    (hap : ∀ p ∈ rest, p.1 ≠ D) (hsz : its.size + its2.size ≤ 1000000)
    (h : ∀ h' n', Fr h₀ L h' m → News h₀ L h' ((D, listOf (its ++ its2) n') :: rest) → Q .none { s with heap := h' }) : wpAny (model prog w) A (call (.builtin "list.extend") [.ref D, .ref b]) Q E s :=
  extendK F N (fun p hp => by
    rcases List.mem_cons.mp hp with rfl | hp
    · exact Nat.ne_of_lt hne.1
    · exact allLtNe hne.2 p hp) hap hsz h
end
end Mine
end

section
namespace Mine
/-- the numbers of a text's codes, the row of the reference -/
def nums (n : Int) : List Int → List Int
  | [] => []
  | c :: r => if c < 64 then (64 * n + c % 64) :: nums 0 r else nums (64 * n + c % 64) r
def numStep (st : List Int × Int) (c : Int) : List Int × Int := if c < 64 then (st.1 ++ [64 * st.2 + c % 64], 0) else (st.1, 64 * st.2 + c % 64)
def numFold (cs : List Int) : List Int × Int := cs.foldl numStep ([], 0)
theorem numFold_snoc (cs : List Int) (c : Int) : numFold (cs ++ [c]) = numStep (numFold cs) c := by simp [numFold]
theorem numFold_from (cs : List Int) : ∀ (acc : List Int) (n : Int), (cs.foldl numStep (acc, n)).1 = acc ++ nums n cs := by
  induction cs with
  | nil => intro acc n; simp [nums]
  | cons c r ih =>
    intro acc n
    simp only [List.foldl_cons, numStep, nums]
    split
    · rw [ih]; simp
    · rw [ih]
theorem numFold_nums (cs : List Int) : (numFold cs).1 = nums 0 cs := by have h := numFold_from cs [] 0; rw [List.nil_append] at h; exact h
theorem nums_length (cs : List Int) : ∀ n, (nums n cs).length ≤ cs.length := by
  induction cs with
  | nil => intro n; simp [nums]
  | cons c r ih =>
    intro n
    simp only [nums]
    split
    · simpa using ih 0
    · exact Nat.le_succ_of_le (ih _)
end Mine
namespace Mine
def figsN (n : Nat) : List Int := if n < 64 then [(n : Int)] else figsN (n / 64) ++ [((n % 64 : Nat) : Int)]
decreasing_by omega
def figs (n : Int) : List Int := figsN n.toNat
theorem figsN_small {n : Nat} (h : n < 64) : figsN n = [(n : Int)] := by rw [figsN, if_pos h]
theorem figsN_big {n : Nat} (h : ¬ n < 64) : figsN n = figsN (n / 64) ++ [((n % 64 : Nat) : Int)] := by rw [figsN, if_neg h]
theorem figsN_last (n : Nat) : figsN n = (figsN n).dropLast ++ [((n % 64 : Nat) : Int)] := by
  by_cases h : n < 64
  · rw [figsN_small h, Nat.mod_eq_of_lt h]; rfl
  · rw [figsN_big h, List.dropLast_concat]
theorem figs_last {n : Int} (h : 0 ≤ n) : figs n = (figs n).dropLast ++ [n % 64] := by
  have := figsN_last n.toNat
  rw [show ((n.toNat % 64 : Nat) : Int) = n % 64 by omega] at this
  exact this
theorem figs_step {n : Int} (h : 63 < n) : (figs n).dropLast = (figs (n / 64)).dropLast ++ [(n / 64) % 64] := by
  have e : figs n = figs (n / 64) ++ [n % 64] := by
    unfold figs
    rw [figsN_big (by omega), show n.toNat / 64 = (n / 64).toNat by omega, show ((n.toNat % 64 : Nat) : Int) = n % 64 by omega]
  rw [e, List.dropLast_concat, ← figs_last (by omega)]
theorem figs_small {n : Int} (h : 0 ≤ n) (h' : ¬ 63 < n) : (figs n).dropLast = [] := by
  unfold figs
  rw [figsN_small (by omega)]; rfl
end Mine
end

section
open PySem PySem.W PyProof.Rows
set_option Elab.async false
set_option maxRecDepth 100000
namespace Mine
open PySem.Calls

def numP (pre : List Int) (c : Sta) : Prop := IntsAre c.vs c.ns ∧ c.ns.length ≤ pre.length ∧ ∃ n t, c.ps = [(Str.ofString "number", .int n t)] ∧ numFold pre = (c.ns, n)

theorem fmod64 (n : Nat) : (n : Int).fmod 64 = (n : Int) % 64 := Int.fmod_eq_emod_of_nonneg _ (by decide)

set_option maxHeartbeats 2000000 in
theorem numbers_code {w : World} {mean : ExcName → Option Value} {mg mb : Str → Option Value} {s : Shared} {dp un : Nat} {fr : Option (List Env)} {gd : Option (List Code)} {R : Result → Shared → Prop} {text : Str} {t : Tok}
    (X : (hd.heap_39 w.params).In s.heap) (T : TP mean mg mb s.heap) (hdp : dp < 700) (hlen : text.length ≤ 10000)
    (h : BackInts s R (nums 0 (KStt.codes text))) :
    codeAny (model PySem.Challenge.rw_ta0015_01.row.prog w) (AR none dp un fr gd) (.call (.ref 129) ⟨[.str text t], []⟩) R s := by
  revert X
  k_fill
  intro X
  k_with_none
  k_with "pyIter str" => fail "none"
  refine enter (binds := [(Str.ofString "text", .str text t)]) X T (by k_is) (by k_is) (room hdp) (.of_eq rfl) (locs rfl) ?_
  intro L h₁ F N
  (try dsimp only)
  (try k_fold)
  k_steps
  refine' loopText1 [] numP [] [] 0 rfl ?kF ?kN ?kk ?kp ?_ ?_
  (case kF => assumption)
  (case kN => assumption)
  (case kk => exact ps1 (Str.ofString "number") rfl)
  (case kp => exact ⟨.nil, Nat.le_refl _, _, _, rfl, rfl⟩)
  · intro c pre post n t u h tk own hpre hoff hP F N
    obtain ⟨vs, ns, k, ps⟩ := c
    obtain ⟨hi, hl, m, tm, hps, hn⟩ := hP
    dsimp only at hi hl hps hn
    subst hps
    dsimp only [led1, staPs, List.cons_append, List.nil_append] at *
    have hl2 := congrArg List.length hpre
    rw [KStt.codes_length, List.length_append] at hl2
    have hvl : vs.length ≤ 10000 := by have := hi.length; omega
    k_steps
    · refine' end1 (ns ++ [64 * m + (n : Int) % 64]) ?F ?N ?hv ?hl ?ho ?hr ?hp
      (case F => assumption)
      (case N => assumption)
      (case hv => exact ps1 (Str.ofString "number") rfl)
      (case hl => exact List.mem_cons_self)
      (case ho => exact fun p hp => List.mem_cons_of_mem _ hp)
      (case hr => intro z h1 h2 _; simp only [List.forall_mem_cons] at h2; simp [h1, h2.1, kstB])
      (case hp =>
        refine ⟨?_, by simp; omega, _, _, rfl, ?_⟩
        · have := ints_snoc (n := 64 * m + (n : Int).fmod 64) (t := tk + 1) hi
          simpa [fmod64] using ints_snoc hi
        · rw [numFold_snoc, hn, numStep, if_pos (by omega)])
    · refine' end1 ns ?F ?N ?hv ?hl ?ho ?hr ?hp
      (case F => assumption)
      (case N => assumption)
      (case hv => exact ps1 (Str.ofString "number") rfl)
      (case hl => exact List.mem_cons_self)
      (case ho => exact fun p hp => List.mem_cons_of_mem _ hp)
      (case hr => intro z h1 h2 _; simp only [List.forall_mem_cons] at h2; simp [h1, h2.1, kstB])
      (case hp =>
        refine ⟨by simpa using hi, by simp; omega, _, _, rfl, ?_⟩
        rw [numFold_snoc, hn, numStep, if_neg (by omega), fmod64])
  · intro c u h tk hP F N
    obtain ⟨vs, ns, k, ps⟩ := c
    obtain ⟨hi, hl, m, tm, hps, hn⟩ := hP
    dsimp only at hi hl hps hn
    subst hps
    dsimp only [led1, staPs, List.cons_append, List.nil_append] at *
    k_steps
    have e : ns = nums 0 (KStt.codes text) := by rw [← numFold_nums, hn]
    rename BackInts s R _ => hb
    exact hb _ _ _ _ _ F.keep (N _ (.head _)).2.2 (N _ (.head _)).1 (e ▸ hi)
end Mine
end

section
open PySem PySem.W PyProof.Rows PySem.Spec
set_option Elab.async false
set_option maxRecDepth 100000
namespace Mine
open PySem.Calls

def marked (nm : Int → Option Str) : List Int → List Int
  | [] => []
  | n :: r => match nm (n % 64) with
    | some x => (n - n % 64 + 38) :: (nums 0 (KStt.codes x) ++ marked nm r)
    | none => n :: marked nm r
theorem marked_snoc (nm : Int → Option Str) (n : Int) : ∀ r : List Int, marked nm (r ++ [n]) = marked nm r ++ (match nm (n % 64) with | some x => (n - n % 64 + 38) :: nums 0 (KStt.codes x) | none => [n])
  | [] => by simp only [List.nil_append, marked]; split <;> simp
  | m :: r => by
    simp only [List.cons_append, marked, marked_snoc nm n r]
    split <;> simp [*]

section
variable {prog : Program} {w : World} {A : Around} {E : Value → Shared → Prop} {s : Shared} {h₀ : Heap} {L d : Addr} {m : Str → Option Value} {D : List (PyData × PyData)}
theorem item_nm {nm : Int → Option Str} {value slice : Expr} {i : Int} {t : Tok} {Q : Value → Shared → Prop} (T : IntTab prog w h₀ d D) (F : Fr h₀ L s.heap m) (hD : ∀ i, lookup (.int i) D = (nm i).map PyData.str) (hi : (lookup (.int i) D).isSome = true)
    (h : ∀ x t, nm i = some x → Q (.str x t) { s with toks := s.toks + 1 })
    (hs : subscripted slice false (.ref d) (.int i t) = operate [.ref d, .int i t] (getItem (.ref d) (.int i t)) := by with_unfolding_all rfl) (hg : ∀ r, letTemporaryGo value (.ref d) r = pure () := by intro _; with_unfolding_all rfl) :
    wpAny (model prog w) A (subscriptTail value slice (.ref d) (.int i t)) Q E s := by
  rw [hD] at hi
  obtain ⟨x, hx⟩ : ∃ x, nm i = some x := by cases e : nm i with
    | none => rw [e] at hi; cases hi
    | some x => exact ⟨x, rfl⟩
  refine item_intTab (T.ofFr F) (by rw [hD, hx]; rfl) (fun v hv => ?_) hs hg
  obtain ⟨t', rfl⟩ := hv.str_inv
  exact h x _ hx
end

theorem marked_length (nm : Int → Option Str) (hnm : ∀ i x, nm i = some x → x.length ≤ 10) : ∀ r : List Int, (marked nm r).length ≤ 11 * r.length
  | [] => Nat.le_refl _
  | n :: r => by
    have ih := marked_length nm hnm r
    simp only [marked, List.length_cons]
    split
    · rename_i x hx
      have h1 := hnm _ _ hx
      have h2 := nums_length (KStt.codes x) 0
      rw [KStt.codes_length] at h2
      simp only [List.length_cons, List.length_append]; omega
    · simp only [List.length_cons]; omega
theorem fmodPos (n : Int) : n.fmod 64 = n % 64 := Int.fmod_eq_emod_of_nonneg _ (by decide)
def markP (nm : Int → Option Str) (pre : List Int) (c : Sta) : Prop := IntsAre c.vs c.ns ∧ c.ps = [] ∧ c.ns = marked nm pre

local macro_rules | `(tactic| walk_at "compareOp In int ref") => `(tactic| k_dflt (refine in_intTab (TabAt.ofFr (by assumption) (by assumption)) ?_))
local macro_rules | `(tactic| walk_at "subscriptTail") => `(tactic| k_dflt (refine item_nm (by assumption) (by assumption) (by assumption) (by assumption) ?_; intro x' t' hx'))
local macro_rules | `(tactic| walk_at "call ref") => `(tactic| k_dflt (refine callInts (by assumption) (by assumption) (fun R' hb' => numbers_code (Frag.In.keeps (by assumption) (Fr.keep (by assumption))) (Top.keeps (by assumption) (Fr.keep (by assumption))) (by dsimp only [Around.deeper, AR]; omega) ?_ hb') ?_; rotate_left; intro h' tk' a' n' vs' F' N' hne' hi'))
local macro_rules | `(tactic| walk_at "call builtin:list.extend") => `(tactic| k_dflt (refine extendK (by assumption) (by assumption) (by assumption) (OwnOff.ne (by assumption) (.head _)) ?_ ?_; rotate_left; intro h' n' F' N'))
local macro_rules | `(tactic| walk_at "pyIter ref") => `(tactic| refine stop ?_)

set_option maxHeartbeats 2000000 in
theorem marked_code {w : World} {mean : ExcName → Option Value} {mg mb : Str → Option Value} {s : Shared} {dp un : Nat} {fr : Option (List Env)} {gd : Option (List Code)} {R : Result → Shared → Prop}
    {l d : Addr} {rvs : List Value} {row : List Int} {D : List (PyData × PyData)} {nm : Int → Option Str}
    (X : (hd.heap_39 w.params).In s.heap) (T : TP mean mg mb s.heap) (hdp : dp < 690) (hl : s.heap.IsList l rvs.toArray) (hi : IntsAre rvs row) (hlen : row.length ≤ 10000)
    (hT : IntTab PySem.Challenge.rw_ta0015_01.row.prog w s.heap d D) (hD : ∀ i, lookup (.int i) D = (nm i).map PyData.str) (hnm : ∀ i x, nm i = some x → x.length ≤ 10)
    (h : BackInts s R (marked nm row)) :
    codeAny (model PySem.Challenge.rw_ta0015_01.row.prog w) (AR none dp un fr gd) (.call (.ref 143) ⟨[.ref l, .ref d], []⟩) R s := by
  revert X
  k_fill
  intro X
  k_with_none
  refine enter (binds := [(Str.ofString "row", .ref l), (Str.ofString "names", .ref d)]) X T (by k_is) (by k_is) (roomA (by omega)) (.of_eq rfl) (locs rfl) ?_
  intro L h₁ F N
  (try dsimp only)
  (try k_fold)
  k_steps
  refine goOn ?_
  refine' loopList1 [] (markP nm) [] [] 0 rfl ?hl ?hi ?kF ?kN ?kk ?kp ?_ ?_
  (case hl => exact hl)
  (case hi => assumption)
  (case kF => assumption)
  (case kN => assumption)
  (case kk => exact ps0)
  (case kp => exact ⟨.nil, rfl, rfl⟩)
  · intro c pre post n t u h tk own hpre hoff hP F N
    obtain ⟨vs, ns, k, ps⟩ := c
    obtain ⟨hI, hps, hn⟩ := hP
    dsimp only at hI hps hn
    subst hps
    dsimp only [led1, staPs, List.cons_append, List.nil_append] at *
    have hl2 := congrArg List.length hpre
    rw [List.length_append] at hl2
    have hml := marked_length nm hnm pre
    have hvl : vs.length ≤ 110000 := by have := hI.length; rw [hn] at this; omega
    k_steps
    · refine' end1 (marked nm (pre ++ [n])) ?F ?N ?hv ?hl ?ho ?hr ?hp
      (case F => assumption)
      (case N => assumption)
      (case hv => exact ps0)
      (case hl => exact List.mem_cons_self)
      (case ho => exact fun p hp => List.mem_cons_of_mem _ hp)
      (case hr => intro z h1 h2 _; simp [h1, kstB])
      (case hp =>
        refine ⟨?_, rfl, rfl⟩
        rename nm (n.fmod 64) = some _ => hx
        rw [fmodPos] at hx
        rw [marked_snoc, hx, ← hn]
        rename IntsAre _ (nums 0 (KStt.codes _)) => hj
        simp only [fmodPos, List.push_toArray, List.append_toArray, List.append_assoc, List.cons_append, List.nil_append]
        exact ints_app hI (.cons _ _ hj))
    · rename IntsAre _ (nums 0 (KStt.codes _)) => hj
      rename nm (n.fmod 64) = some _ => hx
      have h1 := hj.length
      have h2 := Nat.le_trans (nums_length (KStt.codes _) 0) (Nat.le_trans (Nat.le_of_eq (KStt.codes_length _)) (hnm _ _ hx))
      rw [← h1] at h2
      simp only [Array.size_push, List.size_toArray]
      omega
    · exact Nat.le_trans (hnm _ _ (by assumption)) (by decide)
    · refine' end1 (marked nm (pre ++ [n])) ?F ?N ?hv ?hl ?ho ?hr ?hp
      (case F => assumption)
      (case N => assumption)
      (case hv => exact ps0)
      (case hl => exact List.mem_cons_self)
      (case ho => exact fun p hp => List.mem_cons_of_mem _ hp)
      (case hr => intro z h1 h2 _; simp [h1, kstB])
      (case hp =>
        refine ⟨?_, rfl, rfl⟩
        rename (lookup (.int (n.fmod 64)) D).isSome = false => hx
        rw [hD, fmodPos] at hx
        have hx' : nm (n % 64) = none := by cases e : nm (n % 64) with
          | none => rfl
          | some x => rw [e] at hx; cases hx
        rw [marked_snoc, hx', ← hn]
        simpa using ints_snoc hI)
  · intro c u h tk hP F N
    obtain ⟨vs, ns, k, ps⟩ := c
    obtain ⟨hI, hps, hn⟩ := hP
    dsimp only at hI hps hn
    subst hps
    dsimp only [led1, staPs, List.cons_append, List.nil_append] at *
    k_steps
    rename BackInts s R _ => hb
    exact hb _ _ _ _ _ F.keep (N _ (.head _)).2.2 (N _ (.head _)).1 (hn ▸ hI)
end Mine
end

section
open PySem PySem.W PyProof.Rows PySem.Spec
set_option Elab.async false
set_option maxRecDepth 100000
namespace Mine
open PySem.Calls

structure FigS where
  a : Addr
  vs : List Value
  ns : List Int
  k : Nat
  n : Int
  tn : Nat
@[reducible] def figLed (c : FigS) : List (Addr × Obj) := [(c.a, listOf c.vs.toArray c.k)]
@[reducible] def figPs (c : FigS) : List (Str × Value) := [(Str.ofString "number", .int c.n c.tn), (Str.ofString "figures", .ref c.a)]
def figP (n₀ : Int) (c : FigS) : Prop := IntsAre c.vs c.ns ∧ 0 ≤ c.n ∧ figs n₀ = (figs c.n).dropLast ++ c.ns

theorem figEnd {h₀ : Heap} {L a : Addr} {s : Shared} {m₀ m' : Str → Option Value} {n₀ n' : Int} {c : FigS} {h' : Heap} {tk k tn : Nat} {news' : List (Addr × Obj)} {vs : List Value} (ns : List Int) (F : Fr h₀ L h' m') (N : News h₀ L h' news')
    (h1 : m' (Str.ofString "number") = some (.int n' tn)) (h2 : m' (Str.ofString "figures") = some (.ref a)) (hn : (a, listOf vs.toArray k) ∈ news')
    (hr : ∀ z, z ≠ Str.ofString "number" → z ≠ Str.ofString "figures" → m' z = m₀ z) (hp : figP n₀ ⟨a, vs, ns, k, n', tn⟩) (hm : n'.toNat < c.n.toNat) :
    KswEnd h₀ L s figLed figPs (fun _ => True) [] m₀ (figP n₀) (fun c => c.n.toNat) c { s with heap := h', toks := tk } :=
  endWhile ⟨a, vs, ns, k, n', tn⟩ F N (List.forall_mem_singleton.mpr hn) (ps2 _ _ h1 h2) (fun z hz _ => hr z (hz _ (.head _)) (hz _ (.tail _ (.head _)))) hp hm

local macro_rules | `(tactic| walk_at "exec While Compare cons nil") => `(tactic| refine stop ?_)

local macro_rules | `(tactic| walk_at "binaryOp Add ref ref") => `(tactic| k_dflt (refine kmk_add_ints (by assumption) (by assumption) (News.isList (by assumption) (by k_mem)) (News.isList (by assumption) (by k_mem)) (by first | assumption | exact IntsAre.cons _ _ IntsAre.nil) (by first | assumption | exact IntsAre.cons _ _ IntsAre.nil) ?_ ?_; intro D' us' h' F' N' l1' hI'))

set_option maxHeartbeats 2000000 in
theorem figures_code {w : World} {mean : ExcName → Option Value} {mg mb : Str → Option Value} {s : Shared} {hdl : Option Value} {dp un : Nat} {fr : Option (List Env)} {gd : Option (List Code)} {R : Result → Shared → Prop}
    {n₀ : Int} {t₀ : Tok}
    (X : (hd.heap_39 w.params).In s.heap) (T : TP mean mg mb s.heap) (hdp : dp < 690) (h0 : 0 ≤ n₀) (hlen : (figs n₀).length ≤ 10000)
    (h : BackInts s R (figs n₀)) :
    codeAny (model PySem.Challenge.rw_ta0015_01.row.prog w) (AR hdl dp un fr gd) (.call (.ref 136) ⟨[.int n₀ t₀], []⟩) R s := by
  revert X
  k_fill
  intro X
  k_with_none
  refine enter (binds := [(Str.ofString "number", .int n₀ t₀)]) X T (by k_is) (by k_is) (roomA (by omega)) (.of_eq rfl) (locs rfl) ?_
  intro L h₁ F N
  (try dsimp only)
  (try k_fold)
  k_steps
  refine goOn ?_
  rename Fr s.heap L _ _ => F1
  rename News s.heap L _ _ => N1
  refine' loopWhile figLed figPs [] (figP n₀) (fun c => c.n.toNat) ⟨_, _, [n₀ % 64], _, n₀, t₀⟩ F1 N1 ?kk ?kp ?_ ?_
  (case kk => exact ps2 _ _ rfl rfl)
  (case kp => exact ⟨by simpa [fmodPos] using IntsAre.cons _ _ .nil, h0, figs_last h0⟩)
  · intro c u h tk hP F N
    obtain ⟨a, vs, ns, k, n, tn⟩ := c
    obtain ⟨hI, hn0, hn⟩ := hP
    dsimp only at hI hn0 hn
    dsimp only [figLed, figPs, kstB] at *
    k_steps
    · have hlt : 63 < n := by assumption
      have e1 : n.fdiv 64 = n / 64 := Int.fdiv_eq_ediv_of_nonneg _ (by decide)
      refine' figEnd ([(n / 64) % 64] ++ ns) (by assumption) (by assumption) ?h1 ?h2 ?hn ?hr ?hp ?hm
      (case h1 => rfl)
      (case h2 => rfl)
      (case hn => exact .head _)
      (case hr => intro z h1 h2; simp [h1, h2])
      (case hp =>
        refine ⟨?_, by show 0 ≤ n.fdiv 64; omega, ?_⟩
        · rw [← e1, ← fmodPos]; assumption
        · show figs n₀ = (figs (n.fdiv 64)).dropLast ++ ([(n / 64) % 64] ++ ns)
          rw [hn, figs_step hlt, e1, List.append_assoc])
      (case hm => show (n.fdiv 64).toNat < n.toNat; omega)
    · have := congrArg List.length hn
      rw [List.length_append] at this
      rw [sizeLine_eq]; simp only [List.length_singleton]; omega
    · rename BackInts s R _ => hb
      have e : figs n₀ = ns := by rw [hn, figs_small hn0 (by assumption)]; rfl
      exact hb _ _ _ _ _ F.keep (N _ (.head _)).2.2 (N _ (.head _)).1 (e ▸ hI)
  · passes_own
end Mine
end

section
open PySem PySem.W PyProof.Rows PySem.Spec
set_option Elab.async false
set_option maxRecDepth 100000
namespace Mine
open PySem.Calls

def endStep (dots : Bool) (st : List Int × Bool × Bool) (n : Int) : List Int × Bool × Bool :=
  if st.2.2 = true ∧ n = 10 then (st.1, st.2.1, false)
  else ((if dots = true ∧ st.2.1 = true ∧ n = 46 then st.1 ++ [46] else st.1) ++ (if n % 64 = 13 ∨ n % 64 = 10 then [n - n % 64 + 13, 10] else [n]), decide (n % 64 = 13 ∨ n % 64 = 10), decide (n % 64 = 13))
def ended (dots : Bool) (row : List Int) : List Int := (row.foldl (endStep dots) ([], true, false)).1

theorem endStep_len (dots : Bool) (st : List Int × Bool × Bool) (n : Int) : (endStep dots st n).1.length ≤ st.1.length + 3 := by
  unfold endStep
  split
  · exact Nat.le_add_right _ _
  · simp only [List.length_append]
    split <;> split <;> simp only [List.length_append, List.length_cons, List.length_nil] <;> omega
theorem ended_len (dots : Bool) (row : List Int) : ∀ st, (row.foldl (endStep dots) st).1.length ≤ st.1.length + 3 * row.length := by
  induction row with
  | nil => intro st; exact Nat.le_refl _
  | cons n r ih =>
    intro st
    have h1 := ih (endStep dots st n)
    have h2 := endStep_len dots st n
    rw [List.foldl_cons, List.length_cons]; omega

def endP (dots : Bool) (pre : List Int) (c : Sta) : Prop := IntsAre c.vs c.ns ∧ ∃ f b, c.ps = [(Str.ofString "fresh", .bool f), (Str.ofString "back", .bool b)] ∧ pre.foldl (endStep dots) ([], true, false) = (c.ns, f, b)

local macro_rules | `(tactic| walk_at "pyIter ref") => `(tactic| refine stop ?_)
local macro_rules | `(tactic| walk_at "exec If BoolOp cons nil") => `(tactic| (goal_lacks CutL; refine stop ?_))

local macro_rules | `(tactic| walk_at "call builtin:list.extend") => `(tactic| k_dflt (refine extendL (by assumption) (by assumption) (by assumption) (OwnOff.ne (by assumption) (.head _)) ?_ ?_; rotate_left; intro h' n' F' N'))

set_option maxHeartbeats 2000000 in
theorem ended_code {w : World} {mean : ExcName → Option Value} {mg mb : Str → Option Value} {s : Shared} {dp un : Nat} {fr : Option (List Env)} {gd : Option (List Code)} {R : Result → Shared → Prop}
    {l : Addr} {rvs : List Value} {row : List Int} {dots : Bool}
    (X : (hd.heap_39 w.params).In s.heap) (T : TP mean mg mb s.heap) (hdp : dp < 690) (hl : s.heap.IsList l rvs.toArray) (hi : IntsAre rvs row) (hlen : row.length ≤ 10000)
    (h : BackInts s R (ended dots row)) :
    codeAny (model PySem.Challenge.rw_ta0015_01.row.prog w) (AR none dp un fr gd) (.call (.ref 150) ⟨[.ref l, .bool dots], []⟩) R s := by
  revert X
  k_fill
  intro X
  k_with_none
  refine enter (binds := [(Str.ofString "row", .ref l), (Str.ofString "dots", .bool dots)]) X T (by k_is) (by k_is) (roomA (by omega)) (.of_eq rfl) (locs rfl) ?_
  intro L h₁ F N
  (try dsimp only)
  (try k_fold)
  k_steps
  refine goOn ?_
  refine' loopList1 [] (endP dots) [] [] 0 rfl ?hl ?hi ?kF ?kN ?kk ?kp ?_ ?_
  (case hl => exact hl)
  (case hi => assumption)
  (case kF => assumption)
  (case kN => assumption)
  (case kk => exact ps2 (Str.ofString "fresh") (Str.ofString "back") rfl rfl)
  (case kp => exact ⟨.nil, true, false, rfl, rfl⟩)
  · intro c pre post n t u h tk own hpre hoff hP F N
    obtain ⟨vs, ns, k, ps⟩ := c
    obtain ⟨hI, f, b, hps, hn⟩ := hP
    dsimp only at hI hps hn
    subst hps
    dsimp only [led1, staPs, List.cons_append, List.nil_append, kstB] at *
    have hl2 := congrArg List.length hpre
    rw [List.length_append] at hl2
    have hml := ended_len dots pre ([], true, false)
    rw [hn] at hml
    have hnl : ns.length ≤ 30000 := by simp only [List.length_nil] at hml; omega
    have hvl : vs.length ≤ 30000 := by have := hI.length; omega
    have one : ∀ x : List Int × Bool × Bool, endStep dots (ns, f, b) n = x → (pre ++ [n]).foldl (endStep dots) ([], true, false) = x := fun x e => by
      rw [List.foldl_append, hn]; exact e
    have e1 : n.fmod 64 = n % 64 := Int.fmod_eq_emod_of_nonneg _ (by decide)
    k_steps
    · refine' end1 ns ?F ?N ?hv ?hl ?ho ?hr ?hp
      (case F => assumption)
      (case N => assumption)
      (case hv => exact ps2 (Str.ofString "fresh") (Str.ofString "back") rfl rfl)
      (case hl => exact List.mem_cons_self)
      (case ho => exact fun p hp => List.mem_cons_of_mem _ hp)
      (case hr => intro z h1 h2 _; simp only [List.forall_mem_cons] at h2; simp [h1, h2.1, h2.2.1])
      (case hp => exact ⟨hI, f, false, rfl, one _ (if_pos ⟨by assumption, by assumption⟩)⟩)
    all_goals
      refine goOn ?_
      refine cutL (if dots = true ∧ f = true ∧ n = 46 then ns ++ [46] else ns) (by assumption) (by assumption) ?_ ?_
      · k_steps
        · refine cutEnd (by assumption) (by assumption) (fun p hp => hp) rfl ?_
          rw [if_pos ⟨by assumption, by assumption, by assumption⟩]
          exact ints_push hI
        · refine cutEnd (by assumption) (by assumption) (fun p hp => hp) rfl ?_
          rw [if_neg (fun h => (by assumption : n ≠ 46) h.2.2)]
          exact hI
        · refine cutEnd (by assumption) (by assumption) (fun p hp => hp) rfl ?_
          rw [if_neg (fun h => Bool.noConfusion (h.2.1.symm.trans (by assumption : f = false)))]
          exact hI
        · refine cutEnd (by assumption) (by assumption) (fun p hp => hp) rfl ?_
          rw [if_neg (fun h => Bool.noConfusion (h.1.symm.trans (by assumption : dots = false)))]
          exact hI
      · intro h5 tk5 items5 k5 F5 N5 hI5
        have hs5 : items5.size ≤ 200000 := by
          have := hI5.length
          rw [Array.length_toList] at this
          rw [this]
          have h9 : (if dots = true ∧ f = true ∧ n = 46 then ns ++ [46] else ns).length ≤ ns.length + 1 := by split <;> simp
          omega
        k_steps
        all_goals
          have hne : ¬ (b = true ∧ n = 10) := fun h => by first | exact (by assumption : n ≠ 10) h.2 | exact Bool.noConfusion (h.1.symm.trans (by assumption : b = false))
          refine' end1 ((if dots = true ∧ f = true ∧ n = 46 then ns ++ [46] else ns) ++ (if n % 64 = 13 ∨ n % 64 = 10 then [n - n % 64 + 13, 10] else [n])) ?F ?N ?hv ?hl ?ho ?hr ?hp
          (case F => assumption)
          (case N => assumption)
          (case hv => exact ps2 (Str.ofString "fresh") (Str.ofString "back") rfl rfl)
          (case hl => exact List.mem_cons_self)
          (case ho => exact fun p hp => List.mem_cons_of_mem _ hp)
          (case hr => intro z h1 h2 _; simp only [List.forall_mem_cons] at h2; simp [h1, h2.1, h2.2.1])
          (case hp =>
            refine ⟨?_, _, _, rfl, one _ ?_⟩
            · first
              | (have h13 : n.fmod 64 = 13 := by assumption
                 have eC : (if n % 64 = 13 ∨ n % 64 = 10 then [n - n % 64 + 13, 10] else [n]) = [n - n % 64 + 13, 10] := if_pos (.inl (e1 ▸ h13))
                 rw [eC, e1]
                 exact ints_cat hI5 (.cons _ _ (.cons _ _ .nil)))
              | (have h10 : n.fmod 64 = 10 := by assumption
                 have eC : (if n % 64 = 13 ∨ n % 64 = 10 then [n - n % 64 + 13, 10] else [n]) = [n - n % 64 + 13, 10] := if_pos (.inr (e1 ▸ h10))
                 rw [eC, e1]
                 exact ints_cat hI5 (.cons _ _ (.cons _ _ .nil)))
              | (have h10 : n.fmod 64 ≠ 10 := by assumption
                 have h13 : n.fmod 64 ≠ 13 := by assumption
                 have eC : (if n % 64 = 13 ∨ n % 64 = 10 then [n - n % 64 + 13, 10] else [n]) = [n] := if_neg (fun h => h.elim (e1 ▸ h13) (e1 ▸ h10))
                 rw [eC]
                 exact ints_push hI5)
            · unfold endStep
              rw [if_neg hne]
              first
              | (have h13 : n.fmod 64 = 13 := by assumption
                 rw [e1] at h13
                 simp [e1, h13])
              | (have h10 : n.fmod 64 = 10 := by assumption
                 have h13 : n.fmod 64 ≠ 13 := by assumption
                 rw [e1] at h10 h13
                 simp [e1, h10])
              | (have h10 : n.fmod 64 ≠ 10 := by assumption
                 have h13 : n.fmod 64 ≠ 13 := by assumption
                 rw [e1] at h10 h13
                 simp [e1, h10, h13]))
  · intro c u h tk hP F N
    obtain ⟨vs, ns, k, ps⟩ := c
    obtain ⟨hI, f, b, hps, hn⟩ := hP
    dsimp only at hI hps hn
    subst hps
    dsimp only [led1, staPs, List.cons_append, List.nil_append, kstB] at *
    k_steps
    rename BackInts s R _ => hb
    have e : ended dots row = ns := by unfold ended; rw [hn]
    exact hb _ _ _ _ _ F.keep (N _ (.head _)).2.2 (N _ (.head _)).1 (e ▸ hI)
end Mine
end

section
open PySem PySem.W PyProof.Rows PySem.Spec
set_option Elab.async false
set_option maxRecDepth 100000
namespace Mine
open PySem.Calls

abbrev itObj (l : Addr) (i : Nat) : Obj := { cls := .type "list_iterator", data := .fields #[.ref l, .int (i : Int) 0] }
theorem itObj_is {h : Heap} {it l : Addr} {i : Nat} (e : h.get? it = some (itObj l i)) : h.IsListIter it l i := ⟨_, e, rfl, rfl⟩

section
variable {prog : Program} {w : World} {A : Around} {E : Value → Shared → Prop} {s : Shared} {it l : Addr} {i : Nat} {items : Array Value}
theorem next_step {Q : Value → Shared → Prop} (hit : s.heap.get? it = some (itObj l i)) (hl : s.heap.IsList l items) {v : Value} (hx : items[i]? = some v)
    (hQ : ∀ h', h'.get? it = some (itObj l (i + 1)) → Heap.SameBut it s.heap h' → Q v { s with heap := h' }) :
    wpAny (model prog w) A (call (.builtin "next") [.ref it]) Q E s := by
  have hI := itObj_is hit
  obtain ⟨ol, hol, _, nl, hdl⟩ := hl
  refine call_function_entry (by decide +kernel) (by decide +kernel) kdk_entry_next (kdk_args_next _) ?_
  unfold Builtin.«next»
  refine wpAny_bind (m := someArgs "next" 1 2 _) (wpAny_of_eq (a := [Value.ref it]) (by first | rfl | kernel_rfl!) ?_)
  dsimp only
  refine wpAny_bind (wpAny_specialOf (name := Str.ofString "__next__") hI.typeIs slot_listiter_next.lookup ?_)
  refine wpAny_ite_split (fun hab => absurd hab (by decide)) (fun _ => ?_)
  refine wpAny_bind (wpAny_callSpecial?_slot (name := Str.ofString "__next__") hI.typeIs slot_listiter_next
    (wpAny_call_entry slot_listiter_next hI.typeIs entry_listiter_next ?_ (args_listiter_next _)))
  show wpAny _ _ (field (.ref it) 0 >>= _) _ _ s
  refine wpAny_bind (wpAny_field hit rfl (x := .ref l) rfl ?_)
  show wpAny _ _ (if (Value.ref l == Value.none) = true then _ else _) _ _ s
  rw [if_neg (show ¬ ((Value.ref l == Value.none) = true) from Bool.false_ne_true)]
  show wpAny _ _ (field (.ref it) 1 >>= _) _ _ s
  refine wpAny_bind (wpAny_field hit rfl (x := .int i 0) rfl ?_)
  show wpAny _ _ (seqItems? (.ref l) >>= _) _ _ s
  refine wpAny_bind (wpAny_seqItems hol hdl ?_)
  simp only [Int.toNat_natCast, hx]
  refine wpAny_bind (wpAny_setField hit rfl (by simp) (wpAny_pure ⟨v, rfl, wpAny_pure ⟨_, rfl, hQ _ ?_ (Heap.SameBut.update ..)⟩⟩))
  exact Heap.get?_update_self _ hit rfl

theorem next_stop {Q : Value → Shared → Prop} (hh : A.handled = none) (hit : s.heap.get? it = some (itObj l i)) (hl : s.heap.IsList l items) (hx : items[i]? = none)
    (hE : ∀ h₂ h' e, Heap.SameBut it s.heap h₂ → Heap.NewExc h₂ h' e "StopIteration" → E (.ref e) { s with heap := h' }) :
    wpAny (model prog w) A (call (.builtin "next") [.ref it]) Q E s := by
  have hI := itObj_is hit
  obtain ⟨ol, hol, _, nl, hdl⟩ := hl
  refine call_function_entry (by decide +kernel) (by decide +kernel) kdk_entry_next (kdk_args_next _) ?_
  unfold Builtin.«next»
  refine wpAny_bind (m := someArgs "next" 1 2 _) (wpAny_of_eq (a := [Value.ref it]) (by first | rfl | kernel_rfl!) ?_)
  dsimp only
  refine wpAny_bind (wpAny_specialOf (name := Str.ofString "__next__") hI.typeIs slot_listiter_next.lookup ?_)
  refine wpAny_ite_split (fun hab => absurd hab (by decide)) (fun _ => ?_)
  refine wpAny_bind (wpAny_callSpecial?_slot (name := Str.ofString "__next__") hI.typeIs slot_listiter_next
    (wpAny_call_entry slot_listiter_next hI.typeIs entry_listiter_next ?_ (args_listiter_next _)))
  show wpAny _ _ (field (.ref it) 0 >>= _) _ _ s
  refine wpAny_bind (wpAny_field hit rfl (x := .ref l) rfl ?_)
  show wpAny _ _ (if (Value.ref l == Value.none) = true then _ else _) _ _ s
  rw [if_neg (show ¬ ((Value.ref l == Value.none) = true) from Bool.false_ne_true)]
  show wpAny _ _ (field (.ref it) 1 >>= _) _ _ s
  refine wpAny_bind (wpAny_field hit rfl (x := .int i 0) rfl ?_)
  show wpAny _ _ (seqItems? (.ref l) >>= _) _ _ s
  refine wpAny_bind (wpAny_seqItems hol hdl ?_)
  simp only [Int.toNat_natCast, hx]
  refine wpAny_bind (wpAny_rule (wpAny_bind (wpAny_setField hit rfl (by simp) ?_)))
  show wpAny _ _ (newExc (.type "StopIteration") [] >>= _) _ _ _
  refine wpAny_bind ?_
  simp only [newExc, newTuple]
  refine wpAny_bind (wpAny_newObj_type ?_ (by size_fits))
  refine wpAny_bind (m := firstArgMember _ _) (wpAny_of_eq (a := Value.none) (by first | rfl | (simp only [firstArgMember]; rfl)) ?_)
  refine wpAny_newObj_type ?_ (by size_fits)
  simp only [raiseNew]
  refine wpAny_bind (wpAny_handled ?_)
  rw [show A.in1.handled = none from hh]
  refine wpAny_bind (wpAny_pure (wpAny_throw ?_))
  refine hE _ _ _ (Heap.SameBut.update ..) ⟨fun b o e => Heap.get?_push_of_some _ (Heap.get?_push_of_some _ e), ?_, _, _, Heap.get?_push_size _ rfl, rfl, rfl⟩
  cases q : (s.heap.update it (Obj.mapFields fun x => x.setIfInBounds 0 Value.none)).get? (Heap.push (s.heap.update it (Obj.mapFields fun x => x.setIfInBounds 0 Value.none)) { cls := .type "tuple", dict := none, data := .seq ([] : List Value).toArray }).objs.size with
  | none => rfl
  | some o =>
    have h1 := Heap.lt_size q
    rw [Heap.size_push] at h1
    exact absurd h1 (Nat.not_lt.mpr (Nat.le_succ _))
end

theorem enterH {prog : Program} {w : World} {A : Around} {s : Shared} {g : Heap} {hid : List Addr} {K : Frag} {p : Program} {loose : List Str} {mean : ExcName → Option Value} {mg mb : Str → Option Value}
    {R : Result → Shared → Prop} {name qual : Str} {params : Arguments} {body : List Stmt} {scope : Scope} {dV kV doc pm cdv ct oc : Value} {an od : Option Addr} {osl : Array (Option Value)} {f : Addr} {args : Args} {binds : List (Str × Value)}
    (X : K.In g) (T : Top p loose mean mg mb g) (hg : ∀ b o, g.get? b = some o → s.heap.get? b = some o) (hgi : ∀ b ∈ hid, g.get? b = none)
    (ho : K.lookup f = some ⟨oc, od, .func (fnOf name qual params body scope dV kV doc pm an cdv ct), osl⟩) (hcd : codeIn K cdv qual = true) (hroom : A.depth < recursionLimit)
    (hbind : BindsTo s (fnOf name qual params body scope dV kV doc pm an cdv ct) args binds) (hloc : ∀ y ∈ binds, scope.names.lookup y.1 = some .local)
    (h : ∀ L h₁, Fr (hideAll s.heap hid) L h₁ (fun y => binds.reverse.lookup y) → (∀ b o, s.heap.get? b = some o → h₁.get? b = some o ∧ b ≠ L) → K.In (hideAll s.heap hid) → Top p loose mean mg mb (hideAll s.heap hid) →
      wpAny (model prog w) (A.deeper (envOf qual scope L f cdv)) (execs body (envOf qual scope L f cdv))
        (fun fl s' => R (.ok (.ret (match fl with | .ret v => v | _ => .none))) s')
        (fun e s' => wpAny (model prog w) (A.deeper (envOf qual scope L f cdv)) (leaving (envOf qual scope L f cdv) e) (fun _ s'' => R (.error e) s'') (fun e' s'' => R (.error e') s'') s')
        { s with heap := h₁, toks := s.toks + binds.length })
    (hco : scope.isCoroutine = false := by rfl) (hgen : scope.isGenerator = false := by rfl) (hk : scope.kind = .function := by rfl)
    (hcell : ∀ x ∈ scope.names, x.2 ≠ .cell := by decide) : codeAny (model prog w) A (.call (.ref f) args) R s := by
  have st : ∀ b o, g.get? b = some o → (hideAll s.heap hid).get? b = some o := fun b o e => hideAll_get _ (hg b o e) fun q => by rw [hgi b q] at e; cases e
  refine codeAny_call_def (fd := fnOf name qual params body scope dV kV doc pm an cdv ct) (body := body) (binds := binds) hroom ((X.keeps hg) _ _ ho) rfl (T.nolimit.keeps hg) (codeRec_of (X.keeps hg) hcd) rfl hbind hcell hloc (fun h₁ hns hk₁ => ?_) hco hgen hk
  exact h s.heap.objs.size h₁ ⟨hns, fun b o e => hk₁ b o (of_hideAll _ e), Nat.le_of_eq (hideAll_size _ _)⟩ (fun b o e => ⟨hk₁ b o e, Nat.ne_of_lt (Heap.lt_size e)⟩) (X.keeps st) (T.keeps st)

theorem enterC {prog : Program} {w : World} {A : Around} {s : Shared} {g : Heap} {hid : List Addr} {K : Frag} {p : Program} {loose : List Str} {mean : ExcName → Option Value} {mg mb : Str → Option Value}
    {R : Result → Shared → Prop} {name qual : Str} {params : Arguments} {body : List Stmt} {scope : Scope} {dV kV doc pm cdv ct oc : Value} {an od : Option Addr} {osl : Array (Option Value)} {f : Addr} {args : Args} {binds : List (Str × Value)}
    (X : K.In g) (T : Top p loose mean mg mb g) (hg : ∀ b o, g.get? b = some o → s.heap.get? b = some o) (hgi : ∀ b ∈ hid, g.get? b = none)
    (ho : K.lookup f = some ⟨oc, od, .func (fnOf name qual params body scope dV kV doc pm an cdv ct), osl⟩) (hcd : codeIn K cdv qual = true) (hroom : A.depth < recursionLimit)
    (hbind : BindsTo s (fnOf name qual params body scope dV kV doc pm an cdv ct) args binds)
    (hkind : (binds.all fun y => scope.names.lookup y.1 == some .local || scope.names.lookup y.1 == some .cell) = true)
    (hnd : ((cellsFrom 0 scope.names []).map (·.1)).Nodup)
    (h : ∀ L h₁ tk cells, Fr (hideAll s.heap hid) L h₁ (bindL (envOfC qual scope L f cdv).kindOf binds fun _ => none) → News (hideAll s.heap hid) L h₁ cells →
      CellsAre (bindC (envOfC qual scope L f cdv).kindOf binds fun _ => none) (cellsFrom (L + 1) scope.names []) cells → (∀ b o, s.heap.get? b = some o → h₁.get? b = some o ∧ b ≠ L) → K.In (hideAll s.heap hid) → Top p loose mean mg mb (hideAll s.heap hid) →
      wpAny (model prog w) (A.deeper (envOfC qual scope L f cdv)) (execs body (envOfC qual scope L f cdv))
        (fun fl s' => R (.ok (.ret (match fl with | .ret v => v | _ => .none))) s')
        (fun e s' => wpAny (model prog w) (A.deeper (envOfC qual scope L f cdv)) (leaving (envOfC qual scope L f cdv) e) (fun _ s'' => R (.error e) s'') (fun e' s'' => R (.error e') s'') s')
        { s with heap := h₁, toks := tk })
    (hco : scope.isCoroutine = false := by rfl) (hgen : scope.isGenerator = false := by rfl) (hk : scope.kind = .function := by rfl) : codeAny (model prog w) A (.call (.ref f) args) R s := by
  have st : ∀ b o, g.get? b = some o → (hideAll s.heap hid).get? b = some o := fun b o e => hideAll_get _ (hg b o e) fun q => by rw [hgi b q] at e; cases e
  refine codeAny_call_function (fd := fnOf name qual params body scope dV kV doc pm an cdv ct) hroom ((X.keeps hg) _ _ ho) rfl hco hgen rfl (codeRec_of (X.keeps hg) hcd) (hbind _ _ _ _ ?_)
  refine wpAny_newFunctionEnv_cells hk (kindsX hkind _) fun env' he s' x => ?_
  subst he
  refine ⟨(T.nolimit.keeps hg).keeps x.toInCall.keep, codeAny_func ?_⟩
  obtain ⟨h₁, tk, rfl, _⟩ := x.done
  have hk₁ := x.toInCall.keep
  obtain ⟨cells, NC, Y⟩ := Cl.news (h₀ := s.heap) (Nat.le_refl _) fun n c hm => ⟨x.cell n c (lookup_of_mem_nodup (cellsFrom_names scope.names 0 (s.heap.objs.size + 1) [] [] rfl ▸ hnd) hm), x.above n c hm⟩
  refine h s.heap.objs.size h₁ tk cells ⟨x.toInCall.ns, fun b o e => hk₁ b o (of_hideAll _ e), Nat.le_of_eq (hideAll_size _ _)⟩ (fun p hp => ?_) Y (fun b o e => ⟨hk₁ b o e, Nat.ne_of_lt (Heap.lt_size e)⟩) (X.keeps st) (T.keeps st)
  refine ⟨(NC p hp).1, (NC p hp).2.1, ?_⟩
  cases q : (hideAll s.heap hid).get? p.1 with
  | none => rfl
  | some o => have := of_hideAll _ q; rw [(NC p hp).2.2] at this; cases this
end Mine
end

section
namespace Mine
/-- the text's codes are of use: each is 1 .. 127 and not 64, and the last one closes a number -/
def Good : List Int → Prop
  | [] => True
  | [c] => 0 ≤ c ∧ c < 64
  | c :: r => 0 ≤ c ∧ c < 128 ∧ c ≠ 64 ∧ Good r
theorem Good.tail {c : Int} {r : List Int} (h : Good (c :: r)) : Good r := by
  cases r with
  | nil => trivial
  | cons d r => exact h.2.2.2
theorem Good.head {c : Int} {r : List Int} (h : Good (c :: r)) : 0 ≤ c ∧ c < 128 ∧ c ≠ 64 := by
  cases r with
  | nil => unfold Good at h; omega
  | cons d r => exact ⟨h.1, h.2.1, h.2.2.1⟩
theorem Good.cons {c : Int} {r : List Int} (hr : r ≠ []) (h0 : 0 ≤ c) (h1 : c < 128) (h2 : c ≠ 64) (h : Good r) : Good (c :: r) := by
  cases r with
  | nil => exact absurd rfl hr
  | cons d r => exact ⟨h0, h1, h2, h⟩
theorem Good.drop {cs : List Int} (h : Good cs) : ∀ i, Good (cs.drop i) := by
  induction cs with
  | nil => intro i; simp [Good]
  | cons c r ih =>
    intro i
    cases i with
    | zero => exact h
    | succ i => exact ih h.tail i

/-- the reader's own loop -/
def pvL (v b : Int) : List Int → Option (Int × Nat)
  | [] => if b / 64 % 2 = 1 then none else some (v, 0)
  | b' :: r => if b / 64 % 2 = 1 then (pvL (v * 64 + b' % 64) b' r).map (fun x => (x.1, x.2 + 1)) else some (v, 0)

inductive Alike : List Int → List Int → Prop
  | nil : Alike [] []
  | cons {o c : Int} {os cs : List Int} : o % 64 = c % 64 → o / 64 % 2 = c / 64 % 2 → Alike os cs → Alike (o :: os) (c :: cs)
theorem Alike.drop {os cs : List Int} (h : Alike os cs) : ∀ i, Alike (os.drop i) (cs.drop i) := by
  induction h with
  | nil => intro i; simp; exact .nil
  | cons a b h ih =>
    intro i
    cases i with
    | zero => exact .cons a b h
    | succ i => exact ih i
theorem Alike.length {os cs : List Int} (h : Alike os cs) : os.length = cs.length := by
  induction h with
  | nil => rfl
  | cons _ _ _ ih => simp [ih]

theorem pvL_nums : ∀ (cs : List Int) (os : List Int) (n c o : Int), Good (c :: cs) → Alike os cs → o / 64 % 2 = c / 64 % 2 →
    ∃ val k, pvL (64 * n + c % 64) o os = some (val, k) ∧ nums n (c :: cs) = val :: nums 0 (cs.drop k) ∧ k ≤ cs.length
  | [], os, n, c, o, hg, ha, ho => by
    cases ha
    have hc : c < 64 ∧ 0 ≤ c := by unfold Good at hg; omega
    refine ⟨64 * n + c % 64, 0, ?_, ?_, Nat.le_refl _⟩
    · unfold pvL; rw [if_neg (by omega)]
    · simp only [nums, if_pos hc.1, List.drop_nil]
  | d :: cs, os, n, c, o, hg, ha, ho => by
    obtain ⟨h0, h1, h2⟩ := hg.head
    cases ha with
    | @cons o' _ os' _ e1 e2 ha' =>
      by_cases hc : c < 64
      · refine ⟨64 * n + c % 64, 0, ?_, ?_, Nat.zero_le _⟩
        · unfold pvL; rw [if_neg (by omega)]
        · rw [nums, if_pos hc]; rfl
      · obtain ⟨val, k, p1, p2, p3⟩ := pvL_nums cs os' (64 * n + c % 64) d o' hg.tail ha' e2
        refine ⟨val, k + 1, ?_, ?_, Nat.succ_le_succ p3⟩
        · unfold pvL; rw [if_pos (by omega), e1, show (64 * n + c % 64) * 64 + d % 64 = 64 * (64 * n + c % 64) + d % 64 by omega, p1]; rfl
        · rw [nums, if_neg hc, p2]; rfl

/-- how many figures the numbers have -/
def figSum (r : List Int) : Int := (r.map fun n => ((figs n).length : Int)).sum
theorem figs_len_step {n d : Int} (hn : 0 < n) (hd : 0 ≤ d) (hd' : d < 64) : (figs (64 * n + d)).length = (figs n).length + 1 := by
  unfold figs
  rw [figsN_big (by omega), List.length_append, show (64 * n + d).toNat / 64 = n.toNat by omega]; rfl
theorem figs_len_one {d : Int} (hd : 0 ≤ d) (hd' : d < 64) : (figs d).length = 1 := by
  unfold figs
  rw [figsN_small (by omega)]; rfl
theorem figSum_nums : ∀ (cs : List Int) (n : Int), cs ≠ [] → Good cs → 0 ≤ n → figSum (nums n cs) = (if n = 0 then 0 else ((figs n).length : Int)) + cs.length
  | [], n, h, _, _ => absurd rfl h
  | [c], n, _, hg, hn => by
    unfold Good at hg
    have e : c % 64 = c := by omega
    rw [nums, if_pos (by omega), e]
    show ((figs (64 * n + c)).length : Int) + 0 = _
    by_cases h0 : n = 0
    · subst h0; rw [if_pos rfl, show 64 * 0 + c = c by omega, figs_len_one hg.1 hg.2]; rfl
    · rw [if_neg h0, figs_len_step (by omega) hg.1 hg.2]; simp
  | c :: d :: r, n, _, hg, hn => by
    obtain ⟨h0, h1, h2⟩ := hg.head
    by_cases hc : c < 64
    · rw [nums, if_pos hc]
      have ih := figSum_nums (d :: r) 0 (by simp) hg.tail (Int.le_refl _)
      show ((figs (64 * n + c % 64)).length : Int) + figSum (nums 0 (d :: r)) = _
      rw [ih, show c % 64 = c by omega, if_pos rfl]
      by_cases hz : n = 0
      · subst hz; rw [if_pos rfl, show 64 * 0 + c = c by omega, figs_len_one h0 hc]; simp only [List.length_cons]; omega
      · rw [if_neg hz, figs_len_step (by omega) h0 hc]; simp only [List.length_cons]; omega
    · rw [nums, if_neg hc]
      rw [figSum_nums (d :: r) (64 * n + c % 64) (by simp) hg.tail (by omega), if_neg (by omega)]
      by_cases hz : n = 0
      · subst hz; rw [if_pos rfl, show 64 * 0 + c % 64 = c % 64 by omega, figs_len_one (by omega) (by omega)]; simp only [List.length_cons]; omega
      · rw [if_neg hz, figs_len_step (by omega) (by omega) (by omega)]; simp only [List.length_cons]; omega
theorem nums_nonneg : ∀ (cs : List Int) (n : Int), 0 ≤ n → ∀ x ∈ nums n cs, 0 ≤ x
  | [], _, _, _, h => nomatch h
  | c :: r, n, hn, x, h => by
    rw [nums] at h
    split at h
    · rcases List.mem_cons.mp h with rfl | h
      · omega
      · exact nums_nonneg r 0 (Int.le_refl _) x h
    · exact nums_nonneg r _ (by omega) x h
theorem figSum_nonneg : ∀ r : List Int, 0 ≤ figSum r
  | [] => Int.le_refl _
  | n :: r => by
    have := figSum_nonneg r
    show 0 ≤ ((figs n).length : Int) + figSum r
    omega
theorem figSum_mem : ∀ {r : List Int} {x : Int}, x ∈ r → ((figs x).length : Int) ≤ figSum r
  | n :: r, x, h => by
    have := figSum_nonneg r
    show _ ≤ ((figs n).length : Int) + figSum r
    rcases List.mem_cons.mp h with rfl | h
    · omega
    · have := figSum_mem h
      omega
end Mine
end

section
open PySem PySem.W PyProof.Rows PySem.Spec
set_option Elab.async false
set_option maxRecDepth 100000
namespace Mine
open PySem.Calls

/-- an exception that flies: its record's third place (the context) is none -/
def Trc (h base : Heap) (e : Addr) (cls fl : Value) : Prop :=
  ∃ oe vs T oT ts, h.get? e = some oe ∧ (oe.cls = cls ∧ vs[2]? = some .none) ∧ oe.data = .fields vs ∧ vs[1]? = some (.ref T) ∧ base.get? T = none ∧ T ≠ e ∧ h.get? T = some oT ∧ oT.data = .fields ts ∧ ts[3]? = some fl
def FlyC (base : Heap) (l : List Env) (e : Addr) (cls fl : Value) (h : Heap) : Prop :=
  base.StaysIn h ∧ base.get? e = none ∧ h.FunFrames base l ∧ Trc h base e cls fl

section
variable {M : Model} {A : Around} {E : Value → Shared → Prop} {s : Shared} {base : Heap} {env : Env} {outer l : List Env} {L e : Addr} {cls fl : Value} {Q : Unit → Shared → Prop}

theorem entryC {oe : Obj} {vs : Array Value} {head : Value} {hadNext : Bool}
    (hfr : A.frames = some (env :: outer)) (hl : s.heap.FunFrames base (env :: outer)) (hf : env.frame = some L)
    (he : s.heap.get? e = some oe) (hkb : base.StaysIn s.heap) (hen : base.get? e = none) (hd : oe.data = .fields vs) (hsz : 1 < vs.size) (h2 : vs[2]? = some .none)
    (h : ∀ h', FlyC base (env :: outer) e oe.cls (rawInt L) h' → s.heap.UpToSlots h' → Q () { s with heap := h' }) :
    wpAny M A (do let a ← frameOf env; let pl ← entryPlaceOf L hadNext; let b ← EntryCells.newEntry head a .none (rawInt L) .none pl; setField (.ref e) 1 b) Q E s := by
  have hene : e ∉ (env :: outer).filterMap (·.frame) := fun hm => by
    obtain ⟨_, o, ho, hnf⟩ := hl.mem hm
    rw [he] at ho; cases ho; exact hnf vs hd
  refine wpAny_bind (wpAny_frameOf_fun hfr hl hf fun h₁ hs₁ => ?_)
  refine wpAny_bind (wpAny_entryPlaceOf fun pl hpl => ?_)
  unfold EntryCells.newEntry newFields
  refine wpAny_bind (wpAny_newObj_type ?_ (hpl.sizeOk5 _ _ _ _ _))
  have he₁ : h₁.get? e = some oe := (hs₁.2.1 e hene).trans he
  have kb₁ : base.StaysIn h₁ := fun b o hbo => (hs₁.2.1 b fun hm => by rw [(hl.mem hm).1] at hbo; cases hbo).trans (hkb b o hbo)
  generalize hob : ({ cls := .type "traceback", dict := none, data := .fields ([head, .ref L, .none, rawInt L, .none] ++ (if pl.isEmpty then List.replicate 6 Value.none else pl)).toArray } : Obj) = ob
  have hobd : ob.data = .fields ([head, .ref L, .none, rawInt L, .none] ++ (if pl.isEmpty then List.replicate 6 Value.none else pl)).toArray := by rw [← hob]
  have hfree : ob.isFreed = false := by rw [← hob]; rfl
  have he₂ := Heap.get?_push_of_some (h := h₁) ob he₁
  refine wpAny_setField he₂ hd hsz ?_
  have hTe : h₁.objs.size ≠ e := Nat.ne_of_gt (Heap.lt_size he₁)
  have hd₃ := Obj.data_mapFields hd (·.setIfInBounds 1 (Value.ref h₁.objs.size))
  have he₃ := Heap.get?_update_self (Obj.mapFields (·.setIfInBounds 1 (Value.ref h₁.objs.size))) he₂ (Obj.isFreed_of_fields hd₃)
  have hT₃ := (Heap.get?_update_other (h₁.push ob) (Obj.mapFields (·.setIfInBounds 1 (Value.ref h₁.objs.size))) (Ne.symm hTe)).trans (Heap.get?_push_size h₁ hfree)
  have keep : ∀ b o, b ≠ e → h₁.get? b = some o → ((h₁.push ob).update e (Obj.mapFields (·.setIfInBounds 1 (Value.ref h₁.objs.size)))).get? b = some o := fun b o hbe hb => by
    rw [Heap.get?_update_other _ _ (Ne.symm hbe)]
    exact Heap.get?_push_of_some _ hb
  have noRecord : ∀ b o, s.heap.get? b = some o → (∀ vs, o.data ≠ .fields vs) → b ≠ e := fun b o hb hnf q => by
    rw [q, he] at hb; cases hb; exact hnf vs hd
  refine h _ ⟨fun b o hbo => keep b o (fun q => by rw [q, hen] at hbo; cases hbo) (kb₁ b o hbo), hen, hl.of_keeps fun b o hb hnf => ?_, ?_⟩ fun b o hb hnf => ?_
  · obtain ⟨sl, hs⟩ := hs₁.2.2 b o hb
    exact ⟨_, keep b _ (noRecord b o hb hnf) hs, rfl⟩
  · exact ⟨_, _, h₁.objs.size, _, _, he₃, ⟨Obj.cls_mapFields _ _, by rw [Array.getElem?_setIfInBounds_ne (by decide)]; exact h2⟩, hd₃, by simp [hsz], kb₁.fresh, hTe, hT₃, hobd, by rcases hpl with rfl | ⟨_, _, _, _, _, _, _, rfl⟩ <;> simp⟩
  · obtain ⟨sl, hs⟩ := hs₁.2.2 b o hb
    exact ⟨sl, keep b _ (noRecord b o hb hnf) hs⟩

theorem landC (hh : FlyC base l e cls fl s.heap) (hQ : ∀ h', FlyC base l e cls .none h' → s.heap.UpToSlots h' → Q () { s with heap := h' }) : wpAny M A (setFlight (.ref e) none) Q E s := by
  obtain ⟨hkb, hen, hl, oe, vs, T, oT, ts, he, hc, hd, h1, hnT, hTe, hT, hdT, h3⟩ := hh
  have hsz3 : 3 < ts.size := (Array.getElem?_eq_some_iff.mp h3).1
  have other : ∀ b, b ≠ T → (s.heap.update T (Obj.mapFields (·.setIfInBounds 3 ((none : Option Addr).elim Value.none fun f => rawInt f)))).get? b = s.heap.get? b :=
    fun b hb => Heap.get?_update_other _ _ (Ne.symm hb)
  have noRecord : ∀ b o, s.heap.get? b = some o → (∀ vs, o.data ≠ .fields vs) → b ≠ T := fun b o hb hnf q => by
    rw [q, hT] at hb; cases hb; exact hnf ts hdT
  unfold setFlight
  refine wpAny_bind (wpAny_field he hd h1 ?_)
  rw [if_pos (show (Value.ref T != Value.none) = true from by simp)]
  refine wpAny_setField hT hdT hsz3 (hQ _ ⟨fun b o hbo => (other b fun q => by rw [q, hnT] at hbo; cases hbo).trans (hkb b o hbo), hen,
    hl.of_keeps fun b o hb hnf => ⟨o, (other b (noRecord b o hb hnf)).trans hb, rfl⟩, ?_⟩ fun b o hb hnf => ⟨o.slots, (other b (noRecord b o hb hnf)).trans hb⟩)
  exact ⟨oe, vs, T, _, _, (other e (Ne.symm hTe)).trans he, hc, hd, h1, hnT, hTe, Heap.get?_update_self _ hT (Obj.isFreed_of_fields (Obj.data_mapFields hdT _)), Obj.data_mapFields hdT _, by simp [hsz3]⟩

theorem leaveFirstC {oe : Obj} {vs : Array Value} (hfr : A.frames = some (env :: outer)) (hl : s.heap.FunFrames base (env :: outer)) (hf : env.frame = some L)
    (he : s.heap.get? e = some oe) (hkb : base.StaysIn s.heap) (hen : base.get? e = none) (hd : oe.data = .fields vs) (h1 : vs[1]? = some .none) (h2 : vs[2]? = some .none)
    (h : ∀ h', FlyC base outer e oe.cls .none h' → s.heap.UpToSlots h' → Q () { s with heap := h' }) : wpAny M A (leaving env (.ref e)) Q E s := by
  unfold leaving noteFrame
  simp only [hf]
  refine wpAny_bind (wpAny_bind (wpAny_field he hd h1 ?_))
  rw [if_neg (by decide)]
  refine entryC hfr hl hf he hkb hen hd (Array.getElem?_eq_some_iff.mp h1).1 h2 fun h₁ hfl u₁ => ?_
  refine landC hfl fun h₂ hfl₂ u₂ => ?_
  obtain ⟨k1, k2, ⟨_, _, k3⟩, k4⟩ := hfl₂
  exact h h₂ ⟨k1, k2, k3, k4⟩ (u₁.trans u₂)

theorem noteC (hfr : A.frames = some (env :: outer)) (hf : env.frame = some L) (hh : FlyC base (env :: outer) e cls .none s.heap)
    (h : ∀ h', FlyC base (env :: outer) e cls (rawInt L) h' → s.heap.UpToSlots h' → Q () { s with heap := h' }) : wpAny M A (noteFrame (.ref e) env) Q E s := by
  obtain ⟨hkb, hen, hl, oe, vs, T, oT, ts, he, ⟨hcls, h2⟩, hd, h1, hnT, hTe, hT, hdT, h3⟩ := hh
  subst hcls
  unfold noteFrame
  simp only [hf]
  refine wpAny_bind (wpAny_field he hd h1 ?_)
  rw [if_pos (show (Value.ref T != Value.none) = true from by simp)]
  refine wpAny_bind (wpAny_field hT hdT h3 ?_)
  rw [if_neg (show ¬ ((Value.none == rawInt L) = true) from by simp [rawInt])]
  refine wpAny_bind (wpAny_setField hT hdT (Array.getElem?_eq_some_iff.mp h3).1 ?_)
  have other : ∀ b, b ≠ T → (s.heap.update T (Obj.mapFields (·.setIfInBounds 3 Value.none))).get? b = s.heap.get? b := fun b hb => Heap.get?_update_other _ _ (Ne.symm hb)
  have noRecord : ∀ b o, s.heap.get? b = some o → (∀ vs, o.data ≠ .fields vs) → b ≠ T := fun b o hb hnf q => by
    rw [q, hT] at hb; cases hb; exact hnf ts hdT
  refine entryC hfr (hl.of_keeps fun b o hb hnf => ⟨o, (other b (noRecord b o hb hnf)).trans hb, rfl⟩) hf ((other e (Ne.symm hTe)).trans he)
    (fun b o hbo => (other b fun q => by rw [q, hnT] at hbo; cases hbo).trans (hkb b o hbo)) hen hd (Array.getElem?_eq_some_iff.mp h1).1 h2 fun h' hfl u => ?_
  exact h h' hfl fun b o hb hnf => u b o ((other b (noRecord b o hb hnf)).trans hb) hnf
end

/-- what has left the callee -/
def RaisedC (base G : Heap) (l : List Env) (e : Addr) (cls : Value) (news : List (Addr × Obj)) (h : Heap) : Prop :=
  ∃ B, base.StaysIn B ∧ (∀ b o, G.get? b = some o → b ∉ l.filterMap (·.frame) → B.get? b = some o) ∧ (∀ q ∈ news, B.get? q.1 = some q.2 ∧ G.get? q.1 = none ∧ base.get? q.1 = none) ∧ FlyC B l e cls .none h

section
variable {M : Model} {A : Around} {E : Value → Shared → Prop} {s' : Shared} {base g h : Heap} {outer : List Env} {L a e : Addr} {m : Str → Option Value} {name : Str} {scope : Scope} {cd : Value} {Q : Unit → Shared → Prop} {news : List (Addr × Obj)}
theorem leaveC {cls : String} (K : Below A base outer g) (hx : Heap.NewExc h s'.heap e cls) (F : Fr g L h m) (N : News g L h news)
    (hQ : ∀ h', RaisedC base g outer e (.type cls) news h' → g.UpToSlots h' → Q () { s' with heap := h' }) (hk : scope.kind = .function := by rfl) :
    wpAny M (A.deeper (envOf name scope L a cd)) (leaving (envOf name scope L a cd) (.ref e)) Q E s' := by
  have K' := K.push (name := name) (a := a) (cd := cd) F hk
  have hin : ∀ env ∈ (envOf name scope L a cd :: outer), ∀ b, env.frame = some b → b ∈ (envOf name scope L a cd :: outer).filterMap (·.frame) := fun env he b hb => List.mem_filterMap.mpr ⟨env, he, hb⟩
  have st : base.StaysIn (hideAll h ((envOf name scope L a cd :: outer).filterMap (·.frame))) := fun b o q => hideAll_get _ (K'.stays b o q) fun hm => by
    rw [(K'.frames.mem hm).1] at q; cases q
  have sg : ∀ b o, g.get? b = some o → b ∉ outer.filterMap (·.frame) → (hideAll h ((envOf name scope L a cd :: outer).filterMap (·.frame))).get? b = some o := fun b o q nm => hideAll_get _ (F.keep b o q) fun hm => by
    rcases kts_mem hm with z | z
    · rw [z, kts_self F] at q
      cases q
    · exact nm z
  have hl : ∀ q ∈ news, (hideAll h ((envOf name scope L a cd :: outer).filterMap (·.frame))).get? q.1 = some q.2 ∧ g.get? q.1 = none ∧ base.get? q.1 = none := fun q hq => by
    refine ⟨hideAll_get _ (N q hq).1 fun hm => ?_, (N q hq).2.2, fresh_of_stays K.stays (N q hq).2.2⟩
    obtain ⟨env, he, hf⟩ := List.mem_filterMap.mp hm
    rcases List.mem_cons.mp he with rfl | he
    · exact (N q hq).2.1 (Option.some.inj hf).symm
    · obtain ⟨o, ho, _⟩ := (K.frames.mem (List.mem_filterMap.mpr ⟨env, he, hf⟩)).2
      rw [(N q hq).2.2] at ho; cases ho
  obtain ⟨ob, tp, he, hcls, hd⟩ := hx.there
  have hen : (hideAll h ((envOf name scope L a cd :: outer).filterMap (·.frame))).get? e = none := by
    cases q : (hideAll h ((envOf name scope L a cd :: outer).filterMap (·.frame))).get? e with
    | none => rfl
    | some o => have := of_hideAll _ q; rw [hx.new] at this; cases this
  refine leaveFirstC K'.stack ((funFrames_hide K'.frames hin).of_keeps fun b o hb _ => ⟨o, hx.keeps b o hb, rfl⟩) rfl he (fun b o hb => hx.keeps b o (of_hideAll _ hb)) hen hd rfl rfl fun h' hL u => ?_
  exact hQ h' ⟨_, st, sg, hl, hcls ▸ hL⟩ (((Heap.UpToSlots.of_keeps F.keep).trans (Heap.UpToSlots.of_keeps hx.keeps)).trans u)
end

section
variable {prog : Program} {w : World} {A₀ : Around} {E : Value → Shared → Prop} {s' : Shared} {base g G : Heap} {outer : List Env} {L a e : Addr} {m : Str → Option Value} {name : Str} {scope : Scope} {cd : Value} {cl : List (Str × Addr)}
  {b₀ : Stmt} {suite : List Stmt} {pos np : Pos} {rest : List ExceptHandler} {Q : Flow → Shared → Prop} {news : List (Addr × Obj)} {KF : Frag}
  {p : Program} {loose : List Str} {mean : ExcName → Option Value} {mg mb : Str → Option Value}

theorem caughtC (R : RaisedC base G (envX name scope L a cd cl :: outer) e (.type "StopIteration") news s'.heap) (F : Fr g L G m) (K : Below A₀ base outer g) (hsm : G.UpToSlots s'.heap) (XB : KF.In base) (TB : Top p loose mean mg mb base)
    (ex : nsIn KF mainGlobals (Str.ofString "StopIteration") = some none)
    (k : ∀ h' g', KtsTurn (outer.filterMap (·.frame)) g g' → Fr g' L h' m → News g' L h' news → KF.In g' → Top p loose mean mg mb g' → g'.get? e = none → e ≠ L → (∀ q ∈ news, q.1 ≠ e) →
      (∃ oe vs, h'.get? e = some oe ∧ oe.data = .fields vs ∧ vs[2]? = some .none) →
      wpAny (model prog w) ((A₀.deeper (envX name scope L a cd cl)).mark (some (.ref e))) (execs (b₀ :: suite) (envX name scope L a cd cl)) Q E { s' with heap := h' })
    (hk : scope.kind = .function) (hx : (envX name scope L a cd cl).kindOf (Str.ofString "StopIteration") = some .globalImplicit)
    (hE : PassesOwnAt (model prog w) ((A₀.deeper (envX name scope L a cd cl)).mark (some (.ref e))) (A₀.deeper (envX name scope L a cd cl)) (envX name scope L a cd cl) E) :
    wpAny (model prog w) (A₀.deeper (envX name scope L a cd cl)) (noteFrame (.ref e) (envX name scope L a cd cl))
      (fun _ s₂ => wpAny (model prog w) (A₀.deeper (envX name scope L a cd cl)) (setFlight (.ref e) none) (fun _ s₃ =>
        wpAny (model prog w) (A₀.deeper (envX name scope L a cd cl)) (handleBy (.ref e) (envX name scope L a cd cl) (.ExceptHandler (some (.Name (Str.ofString "StopIteration") np)) none (b₀ :: suite) pos :: rest)) Q E s₃) E s₂) E s' := by
  obtain ⟨B, hB, hBG, hl, hfl⟩ := R
  have hL : B.get? L = none := by
    obtain ⟨_, ⟨L', _, hf, hn', _⟩, _⟩ := hfl.2.2.1
    obtain rfl : L = L' := Option.some.inj hf
    exact hn'
  refine noteC (Around.frames_deeper K.stack) rfl hfl fun h₄ hheld₄ hsm₄ => ?_
  refine landC hheld₄ fun h₅ hheld hsm₅' => ?_
  have hsm₅ := hsm₄.trans hsm₅'
  obtain ⟨g₅, T₅, F₅, K₅⟩ := kts_ground (name := name) (scope := scope) (a := a) (cd := cd) K F hBG hheld.1 (hsm.trans hsm₅)
  have X₅ : KF.In g₅ := XB.keeps K₅.stays
  have P₅ : TopRead p loose mg mb g₅ := topRead_of (TB.keeps K₅.stays)
  obtain ⟨ob, vsb, _, _, _, hob, ⟨hobc, _⟩, _⟩ := id hheld.2.2.2
  refine wpAny_handleBy_builtin (X := "StopIteration") (T := "StopIteration") (b := true) (by rw [isSubtype_type]; kernel_rfl) (by rw [isSubtype_type]; kernel_rfl) (by rw [isSubtype_type]; kernel_rfl)
    (nameX_B F₅ X₅ P₅ ex (by boot_by_name) (by decide) ⟨rfl, ⟨ob, hob, hobc⟩, ?_⟩ hk hx (by decide))
  refine landC hheld fun h₆ hfl₆ hsm₆ => ?_
  obtain ⟨g₆, T₆, F₆, K₆⟩ := kts_ground (name := name) (scope := scope) (a := a) (cd := cd) K F hBG hfl₆.1 ((hsm.trans hsm₅).trans hsm₆)
  have Nl : News g₆ L h₆ news := fun q hq => ⟨hfl₆.1 _ _ (hl q hq).1, (fun z => by have := (hl q hq).1; rw [z, hL] at this; cases this), T₆.none_ _ (kts_none F.keep (hl q hq).2.1)⟩
  obtain ⟨oe, vs, _, _, _, hoe, ⟨_, hv2⟩, hdd, _⟩ := id hfl₆.2.2.2
  have hge : g.get? e = none := kts_fresh (name := name) (scope := scope) (a := a) (cd := cd) F hBG hfl₆.2.1 fun o ho hm => by
    obtain ⟨_, o', ho', hd'⟩ := K.frames.mem hm
    obtain ⟨sl, hs⟩ := ((hsm.trans hsm₅).trans hsm₆) e o (F.keep _ _ ho) (by rw [ho] at ho'; cases ho'; exact hd')
    rw [hoe] at hs; cases hs; rw [ho] at ho'; cases ho'; exact hd' _ hdd
  refine wpAny_passesOwnAt hE (k h₆ g₆ T₆ F₆ Nl (XB.keeps K₆.stays) (TB.keeps K₆.stays) (T₆.none_ _ hge) ?_ (fun q hq z => by have := (hl q hq).1; rw [z, hfl₆.2.1] at this; cases this) ⟨oe, vs, hoe, hdd, hv2⟩)
  rintro rfl
  obtain ⟨oL, es, ep, hoL, hdL, _⟩ := F₆.ns
  rw [hoe] at hoL; cases hoL; rw [hdd] at hdL; cases hdL
end
end Mine
end

section
open PySem PySem.W PyProof.Rows PySem.Spec
set_option Elab.async false
set_option maxRecDepth 100000
namespace Mine
open PySem.Calls

theorem entry_unchain : entryFor table "proto.unchain" = some Builtin.«proto.unchain» := entryFor_of_fast (by kernel_rfl)

def CtxNone (h : Heap) (e : Addr) : Prop := ∃ oe vs, h.get? e = some oe ∧ oe.data = .fields vs ∧ vs[2]? = some .none
theorem CtxNone.at {h h' : Heap} {e : Addr} (x : CtxNone h e) (k : ∀ o, h.get? e = some o → h'.get? e = some o) : CtxNone h' e := let ⟨oe, vs, a, r⟩ := x; ⟨oe, vs, k _ a, r⟩

section
variable {prog : Program} {w : World} {A : Around} {E : Value → Shared → Prop} {s : Shared} {it l e : Addr} {i : Nat} {items : Array Value}

theorem unchainC {v : Value} (he : CtxNone s.heap e) {Q : Value → Shared → Prop} (h : Q .none s) : wpAny (model prog w) A (runValue (.builtin "proto.unchain" ⟨[v, .ref e, .ref e, .bool false], []⟩)) Q E s := by
  obtain ⟨oe, vs, hoe, hd, h2⟩ := he
  refine wpAny_runValue (codeAny_builtin entry_unchain ?_)
  show wpAny _ _ (field (.ref e) 2 >>= _) _ _ s
  refine wpAny_bind (wpAny_field hoe hd h2 ?_)
  exact wpAny_pure h

theorem pyNext_endH {Q : Option Value → Shared → Prop} (hh : A.handled = some (.ref e)) (he : CtxNone s.heap e) (hne : it ≠ e)
    (hit : s.heap.IsListIter it l i) (hl : s.heap.IsList l items) (hx : items[i]? = none)
    (hQ : ∀ h', Heap.ExtBut it s.heap h' → Q none { s with heap := h' }) : wpAny (model prog w) A (pyNext (.ref it)) Q E s := by
  obtain ⟨o, ho, hc, hd⟩ := id hit
  obtain ⟨ol, hol, _, nl, hdl⟩ := hl
  unfold pyNext
  refine wpAny_bind (wpAny_attempt (wpAny_callSpecial?_slot (name := Str.ofString "__next__") hit.typeIs slot_listiter_next
    (wpAny_call_entry slot_listiter_next hit.typeIs entry_listiter_next ?_ (args_listiter_next _))))
  show wpAny _ _ (field (.ref it) 0 >>= _) _ _ s
  refine wpAny_bind (wpAny_field ho hd (x := .ref l) rfl ?_)
  show wpAny _ _ (if (Value.ref l == Value.none) = true then _ else _) _ _ s
  rw [if_neg (show ¬ ((Value.ref l == Value.none) = true) from Bool.false_ne_true)]
  show wpAny _ _ (field (.ref it) 1 >>= _) _ _ s
  refine wpAny_bind (wpAny_field ho hd (x := .int i 0) rfl ?_)
  show wpAny _ _ (seqItems? (.ref l) >>= _) _ _ s
  refine wpAny_bind (wpAny_seqItems hol hdl ?_)
  simp only [Int.toNat_natCast, hx]
  refine wpAny_bind (wpAny_rule (wpAny_bind (wpAny_setField ho hd (by simp) ?_)))
  show wpAny _ _ (newExc (.type "StopIteration") [] >>= _) _ _ _
  refine wpAny_bind ?_
  simp only [newExc, newTuple]
  refine wpAny_bind (wpAny_newObj_type ?_ (by size_fits))
  refine wpAny_bind (m := firstArgMember _ _) (wpAny_of_eq (a := Value.none) (by first | rfl | (simp only [firstArgMember]; rfl)) ?_)
  refine wpAny_newObj_type ?_ (by size_fits)
  have x1 := ((Heap.SameBut.update s.heap it (Obj.mapFields fun x => x.setIfInBounds 0 Value.none)).extBut.push { cls := .type "tuple", dict := none, data := .seq ([] : List Value).toArray })
  generalize (s.heap.update it (Obj.mapFields fun x => x.setIfInBounds 0 Value.none)).push { cls := .type "tuple", dict := none, data := .seq ([] : List Value).toArray } = h₁ at x1 ⊢
  generalize hob : ({ cls := .type "StopIteration", dict := none, data := _ } : Obj) = ob
  have x2 := x1.push ob
  simp only [raiseNew]
  refine wpAny_bind (wpAny_handled ?_)
  rw [show A.in1.handled = some (.ref e) from hh]
  have hea : h₁.objs.size ≠ e := fun q => by
    obtain ⟨oe, vs, hoe, _⟩ := he
    have := x1 e oe (Ne.symm hne) hoe
    exact absurd (Heap.lt_size this) (by rw [← q]; exact Nat.lt_irrefl _)
  show wpAny _ _ (if (Value.ref e != Value.ref h₁.objs.size) = true then _ else _) _ _ _
  rw [if_pos (by simpa using fun q => hea q.symm)]
  refine wpAny_bind ((wpAny_holding (unchainC (he.at fun o eo => x2 e o (Ne.symm hne) eo) ?_)))
  have ha : (h₁.push ob).get? h₁.objs.size = some ob := Heap.get?_push_size _ (by rw [← hob]; rfl)
  have hobd : ∃ vs : Array Value, ob.data = .fields vs ∧ 2 < vs.size ∧ ob.cls = .type "StopIteration" := by rw [← hob]; exact ⟨_, rfl, by simp [ownMembersOf], rfl⟩
  obtain ⟨vs, hvd, hvs, hvc⟩ := hobd
  unfold updateField
  refine wpAny_bind (wpAny_bind (wpAny_load ha ?_))
  rw [hvd]
  dsimp only
  rw [if_pos hvs]
  refine wpAny_update ha ?_
  refine wpAny_throw ?_
  have hd3 := Obj.data_mapFields hvd (·.setIfInBounds 2 (Value.ref e))
  refine wpAny_bind (wpAny_isInstance (T := "StopIteration") (b := true) ⟨_, Heap.get?_update_self _ ha (Obj.isFreed_of_fields hd3), (Obj.cls_mapFields ..).trans hvc⟩ isSubtype_stop ?_)
  refine wpAny_pure (hQ _ fun b o hb eo => ?_)
  rw [Heap.get?_update_other _ _ (fun q => ?_)]
  · exact x2 b o hb eo
  · have := x1 b o hb eo
    exact absurd (Heap.lt_size this) (by rw [← q]; exact Nat.lt_irrefl _)
theorem walksH (hh : A.handled = some (.ref e)) (I ax : Addr) (hne : ax ≠ I) (hIe : I ≠ e) (items : Array Value) :
    Walks prog w A I [I, ax, e] [I] items.size (fun i v => items[i]? = some v) (fun i h => h.IsListIter I ax i ∧ h.IsList ax items ∧ CtxNone h e) where
  sub := fun b hb => by simp at hb; simp [hb]
  frame := fun _ _ _ st hk => ⟨st.1.at fun o e => hk I (by simp) o e, st.2.1.at fun o e => hk ax (by simp) o e, st.2.2.at fun o e => hk _ (by simp) o e⟩
  item := fun i s Q E hi st hQ => by
    refine wpAny_pyNext_list_item st.1 st.2.1 (x := items[i]) (by simp [hi]) fun h' hit' hs' => ?_
    exact hQ _ h' s.toks (by simp [hi]) ⟨hit', st.2.1.extBut hs'.extBut hne, st.2.2.at fun o eo => hs'.extBut _ o (Ne.symm hIe) eo⟩ fun b o hb e => hs'.extBut b o (fun h => hb (by simp [h])) e
  done := fun s Q E st hQ => pyNext_endH hh st.2.2 hIe st.1 st.2.1 (by simp) fun h' he' => hQ h' s.toks fun b o hb e => he' b o (fun h => hb (by simp [h])) e
  self := fun _ _ _ _ st hQ => wpAny_pyIter_listiter st.1 hQ
end
end Mine
end

section
open PySem PySem.W PyProof.Rows PySem.Spec
set_option Elab.async false
set_option maxRecDepth 100000
namespace Mine
open PySem.Calls

theorem pvL_len : ∀ (r : List Int) (v b x : Int) (k : Nat), pvL v b r = some (x, k) → k ≤ r.length
  | [], v, b, x, k, h => by
    unfold pvL at h
    split at h
    · cases h
    · cases h; exact Nat.le_refl _
  | b' :: r, v, b, x, k, h => by
    unfold pvL at h
    split at h
    · obtain ⟨⟨x', k'⟩, h1, h2⟩ := Option.map_eq_some_iff.mp h
      cases h2
      exact Nat.succ_le_succ (pvL_len r _ _ _ _ h1)
    · cases h; exact Nat.zero_le _
theorem and_shift {v x : Int} (hv : 0 ≤ v) : Builtin.bitAnd (v * 64) (x % 64) = 0 := by
  rw [bitAnd_pp (by omega) (by omega)]
  have h1 : (v * 64).toNat = v.toNat <<< 6 := by rw [Nat.shiftLeft_eq]; omega
  have h2 : (x % 64).toNat < 2 ^ 6 := by omega
  rw [h1]
  have : v.toNat <<< 6 &&& (x % 64).toNat = 0 := by
    apply Nat.eq_of_testBit_eq
    intro i
    rw [Nat.testBit_and, Nat.testBit_shiftLeft, Nat.zero_testBit]
    by_cases hi : 6 ≤ i
    · rw [Nat.testBit_lt_two_pow (Nat.lt_of_lt_of_le h2 (Nat.pow_le_pow_right (by decide) hi)), Bool.and_false]
    · simp [hi]
  rw [this]; rfl
theorem nextK {prog : Program} {w : World} {A : Around} {E : Value → Shared → Prop} {s : Shared} {h₀ : Heap} {L it l : Addr} {m : Str → Option Value} {i : Nat} {vs : List Value} {os : List Int} {b : Int} {Q : Value → Shared → Prop} (F : Fr h₀ L s.heap m) (N : News h₀ L s.heap [(it, itObj l i)]) (hl : h₀.IsList l vs.toArray) (hi : IntsAre vs os) (hb : os[i]? = some b)
    (h : ∀ h' t, Fr h₀ L h' m → News h₀ L h' [(it, itObj l (i + 1))] → Q (.int b t) { s with heap := h' }) : wpAny (model prog w) A (call (.builtin "next") [.ref it]) Q E s := by
  have hm := N (it, itObj l i) (.head _)
  obtain ⟨hlt, hbe⟩ := List.getElem?_eq_some_iff.mp hb
  obtain ⟨t, ht⟩ := hi.get i os[i] (by simp [hlt])
  refine next_step hm.1 (hl.at fun o e => F.keep l o e) (v := .int b t) (by rw [← hbe]; simpa using ht) fun h' hit' hs => ?_
  exact h h' t (F.change hs hm.2.1 hm.2.2) fun p hp => by
    rw [List.mem_singleton.mp hp]
    exact ⟨hit', hm.2⟩

structure ParS where
  v : Int
  tv : Nat
  b : Int
  tb : Nat
  j : Nat
@[reducible] def parLed (it l : Addr) (c : ParS) : List (Addr × Obj) := [(it, itObj l c.j)]
@[reducible] def parPs (c : ParS) : List (Str × Value) := [(Str.ofString "val", .int c.v c.tv), (Str.ofString "b", .int c.b c.tb)]
def parP (os : List Int) (val : Int) (e : Nat) (c : ParS) : Prop := c.j ≤ e ∧ pvL c.v c.b (os.drop c.j) = some (val, e - c.j) ∧ 0 ≤ c.v ∧ c.v < 64 ^ c.j ∧ 0 ≤ c.b ∧ e ≤ os.length
theorem parEnd {os : List Int} {val : Int} {e : Nat} {it l : Addr} {h₀ : Heap} {L : Addr} {s : Shared} {m₀ m' : Str → Option Value} {c : ParS} {h' : Heap} {tk tv tb j : Nat} {v b : Int} {news' : List (Addr × Obj)} (F : Fr h₀ L h' m') (N : News h₀ L h' news')
    (h1 : m' (Str.ofString "val") = some (.int v tv)) (h2 : m' (Str.ofString "b") = some (.int b tb)) (hn : (it, itObj l j) ∈ news')
    (hr : ∀ z, z ≠ Str.ofString "val" → z ≠ Str.ofString "b" → m' z = m₀ z) (hp : parP os val e ⟨v, tv, b, tb, j⟩) (hm : os.length - j < os.length - c.j) :
    KswEnd h₀ L s (parLed it l) parPs (fun _ => True) [] m₀ (parP os val e) (fun c => os.length - c.j) c { s with heap := h', toks := tk } :=
  endWhile ⟨v, tv, b, tb, j⟩ F N (List.forall_mem_singleton.mpr hn) (ps2 _ _ h1 h2) (fun z hz _ => hr z (hz _ (.head _)) (hz _ (.tail _ (.head _)))) hp hm

theorem parWhile {prog : Program} {w : World} {A : Around} {E : Value → Shared → Prop} {Q : Flow → Shared → Prop} {s : Shared} {env : Env} {h₀ : Heap} {L : Addr} {test : Expr} {body : List Stmt} {pos : Pos} {m₀ : Str → Option Value}
    {os : List Int} {val : Int} {e : Nat} {it l : Addr} {v b : Int} {tv tb j : Nat} (F : Fr h₀ L s.heap m₀) (N : News h₀ L s.heap [(it, itObj l j)])
    (h1 : m₀ (Str.ofString "val") = some (.int v tv)) (h2 : m₀ (Str.ofString "b") = some (.int b tb)) (hp : parP os val e ⟨v, tv, b, tb, j⟩)
    (turn : ∀ (c : ParS) (u : Str → Option Value) h tk, parP os val e c → Fr h₀ L h (kstB (fun z => if [].contains z then u z else m₀ z) (parPs c)) → News h₀ L h (parLed it l c) →
      wpAny (model prog w) A (isTrue test env (eval test env)) (fun b s₂ =>
        if b = true then wpAny (model prog w) A (execs body env) (KswPost h₀ L s (parLed it l) parPs (fun _ => True) [] m₀ (parP os val e) (fun c => os.length - c.j) Q c) E s₂ else Q .next s₂) E { s with heap := h, toks := tk })
    (hE : PassesOwn (model prog w) A env E) : wpAny (model prog w) A (exec (.While test body [] pos) env) Q E s :=
  loopWhile (parLed it l) parPs [] (parP os val e) (fun c => os.length - c.j) ⟨v, tv, b, tb, j⟩ F N (ps2 _ _ h1 h2) hp turn hE

structure ShOk (v : Int) : Prop where
  ok : (Builtin.Int.intBits v : Int) + 6 ≤ 2 ^ 27
theorem ilsh {prog : Program} {w : World} {A : Around} {E : Value → Shared → Prop} {s : Shared} {Q : Value → Shared → Prop} {a : Int} {t u : Tok} (hs : ShOk a) (h : Q (.int (a * 64) s.toks) { s with toks := s.toks + 1 }) :
    wpAny (model prog w) A (inplaceOp .LShift (.int a t) (.int 6 u)) Q E s := ilshift_int (by decide) hs.ok h

local macro_rules | `(tactic| walk_at "exec While BinOp cons nil") => `(tactic| refine stop ?_)
local macro_rules | `(tactic| walk_at "call builtin:next") => `(tactic| k_dflt (refine nextK (by assumption) (by assumption) (by assumption) (by assumption) (by assumption) ?_; intro h' t' F' N'))
local macro_rules | `(tactic| walk_at "inplaceOp LShift int int") => `(tactic| k_dflt (refine ilsh (by assumption) ?_))

set_option maxHeartbeats 2000000 in
theorem parse_code {w : World} {mean : ExcName → Option Value} {mg mb : Str → Option Value} {s : Shared} {g : Heap} {dp un : Nat} {fr : Option (List Env)} {gd : Option (List Code)} {R : Result → Shared → Prop}
    {it l : Addr} {i k : Nat} {vs : List Value} {os : List Int} {b val : Int}
    (X : (hd.heap_39 w.params).In g) (T : TP mean mg mb g) (hg : ∀ b o, g.get? b = some o → s.heap.get? b = some o) (hgi : g.get? it = none) (hdp : dp < 690)
    (hit : s.heap.get? it = some (itObj l i)) (hl : s.heap.IsList l vs.toArray) (hne : l ≠ it) (hi : IntsAre vs os) (hlen : os.length ≤ 10000)
    (hpos : ∀ x ∈ os, 0 ≤ x) (hb : os[i]? = some b) (hp : pvL (b % 64) b (os.drop (i + 1)) = some (val, k))
    (hback : ∀ (h' : Heap) (tk t : Nat), (∀ b o, b ≠ it → s.heap.get? b = some o → h'.get? b = some o) → h'.get? it = some (itObj l (i + 1 + k)) → R (.ok (.ret (.int val t))) { s with heap := h', toks := tk }) :
    codeAny (model PySem.Challenge.rw_ta0015_01.row.prog w) (AR none dp un fr gd) (.call (.ref 38) ⟨[.ref it], []⟩) R s := by
  revert X
  k_fill
  intro X
  k_with_none
  refine enterH (hid := [it]) (binds := [(Str.ofString "iterator", .ref it)]) X T hg (fun b hb => by rw [List.mem_singleton.mp hb]; exact hgi) (by k_is) (by k_is) (roomA (by omega)) (.of_eq rfl) (locs rfl) ?_
  intro L h₁ F hkeep X₁ T₁
  have N : News (hideAll s.heap [it]) L h₁ [(it, itObj l i)] := fun p hp => by
    rw [List.mem_singleton.mp hp]
    exact ⟨(hkeep _ _ hit).1, (hkeep _ _ hit).2, hideAll_none _ (.head _)⟩
  have hl₁ : (hideAll s.heap [it]).IsList l vs.toArray := by
    obtain ⟨o, ho, r⟩ := hl
    exact ⟨o, hideAll_get _ ho (fun q => hne (List.mem_singleton.mp q)), r⟩
  clear T X
  refine wpAny_mono (E := fun _ _ => False) ?_ (fun _ _ x => x) (fun _ _ x => x.elim)
  (try dsimp only)
  (try k_fold)
  k_steps
  refine goOn ?_
  have hdr : ∀ j x, os[j]? = some x → os.drop j = x :: os.drop (j + 1) := fun j x e => by
    obtain ⟨hlt, he⟩ := List.getElem?_eq_some_iff.mp e
    rw [List.drop_eq_getElem_cons hlt, he]
  have hb63 : ∀ x : Int, Builtin.bitAnd x 63 = x % 64 := fun x => bitAnd_m6 x
  have hb64 : ∀ x : Int, Builtin.bitAnd x 64 = (x / 64 % 2) * 64 := fun x => kbt_bit x 6
  have hil : i < os.length := (List.getElem?_eq_some_iff.mp hb).1
  have hbm : b ∈ os := List.mem_of_getElem? hb
  have hbp := hpos b hbm
  have hpw : (1 : Int) ≤ 64 ^ i := by exact_mod_cast Nat.one_le_pow i 64 (by decide)
  rw [hb63] at *
  rename Fr _ L _ _ => F1
  rename News _ L _ _ => N1
  have hkl := pvL_len _ _ _ _ _ hp
  refine' parWhile (os := os) (val := val) (e := i + 1 + k) F1 N1 ?k1 ?k2 ?kp ?_ ?_
  (case k1 => rfl)
  (case k2 => rfl)
  (case kp =>
    rw [List.length_drop] at hkl
    refine ⟨Nat.le_add_right _ _, ?_, by show 0 ≤ b % 64; omega, ?_, hbp, by omega⟩
    · show pvL (b % 64) b (os.drop (i + 1)) = some (val, i + 1 + k - (i + 1))
      rw [hp, Nat.add_sub_cancel_left]
    · show b % 64 < 64 ^ (i + 1)
      rw [Int.pow_succ]
      omega)
  · intro c u h tk hP F N
    obtain ⟨v, tv, b, tb, j⟩ := c
    obtain ⟨hje, hpv, hv0, hv1, hb0, hel⟩ := hP
    dsimp only at hje hpv hv0 hv1 hb0
    dsimp only [parLed, parPs, kstB] at *
    have hnat : v.natAbs < 2 ^ (6 * j) := by
      have e : (64 : Int) ^ j = ((2 ^ (6 * j) : Nat) : Int) := by rw [Nat.pow_mul]; norm_cast
      rw [e] at hv1; omega
    have hsh : ShOk v := ⟨by
      have := intBits_le hnat
      omega⟩
    clear hnat
    by_cases hbit : b / 64 % 2 = 1
    · obtain ⟨b', hb', hlt, hpv', hpos'⟩ : ∃ b', os[j]? = some b' ∧ j + 1 ≤ i + 1 + k ∧ pvL (v * 64 + b' % 64) b' (os.drop (j + 1)) = some (val, i + 1 + k - (j + 1)) ∧ 0 ≤ b' := by
        cases e : os[j]? with
        | none =>
          rw [List.drop_eq_nil_of_le (by simpa using e)] at hpv
          unfold pvL at hpv
          rw [if_pos hbit] at hpv; cases hpv
        | some b' =>
          rw [hdr _ _ e] at hpv
          unfold pvL at hpv
          rw [if_pos hbit] at hpv
          obtain ⟨⟨x', k'⟩, h1, h2⟩ := Option.map_eq_some_iff.mp hpv
          simp only [Prod.mk.injEq] at h2
          refine ⟨b', rfl, by omega, ?_, hpos _ (List.mem_of_getElem? e)⟩
          rw [h1, ← h2.1]
          simp only [Option.some.injEq, Prod.mk.injEq, true_and]
          omega
      have hjl : j < os.length := (List.getElem?_eq_some_iff.mp hb').1
      have hor : Builtin.bitOr (v * 64) (Builtin.bitAnd b' 63) = v * 64 + b' % 64 := by
        rw [hb63, bitOr_and]
        rw [and_shift hv0]
        omega
      k_steps
      · refine' parEnd (by assumption) (by assumption) ?k1 ?k2 ?hn ?hr ?hp ?hm
        (case k1 => rfl)
        (case k2 => rfl)
        (case hn => exact .head _)
        (case hr => intro z h1 h2; simp [h1, h2])
        (case hp =>
          rw [hor]
          refine ⟨hlt, hpv', by show 0 ≤ v * 64 + b' % 64; omega, ?_, hpos', hel⟩
          show v * 64 + b' % 64 < 64 ^ (j + 1)
          rw [Int.pow_succ]
          omega)
        (case hm => show os.length - (j + 1) < os.length - j; omega)
      · exfalso
        rename Builtin.bitAnd b 64 = 0 => hz
        rw [hb64] at hz; omega
    · k_steps
      · exfalso
        rename Builtin.bitAnd b 64 ≠ 0 => hz
        rw [hb64] at hz
        have := Int.emod_two_eq (b / 64)
        omega
      · have hfin : val = v ∧ i + 1 + k = j := by
          cases e : os.drop j with
          | nil => rw [e] at hpv; unfold pvL at hpv; rw [if_neg hbit] at hpv; simp only [Option.some.injEq, Prod.mk.injEq] at hpv; omega
          | cons x r => rw [e] at hpv; unfold pvL at hpv; rw [if_neg hbit] at hpv; simp only [Option.some.injEq, Prod.mk.injEq] at hpv; omega
        obtain ⟨rfl, hj⟩ := hfin
        refine hback _ _ _ (fun b o hbi e => F.keep b o (hideAll_get _ e fun q => hbi (List.mem_singleton.mp q))) ?_
        rw [hj]
        exact (N _ (.head _)).1
  · passes_own
end Mine
end

section
open PySem PySem.W PyProof.Rows PySem.Spec
set_option Elab.async false
set_option maxRecDepth 100000
namespace Mine
open PySem.Calls

local macro_rules | `(tactic| walk_at "call builtin:next") => `(tactic| (goal_lacks CutL; refine stop ?_))

theorem hideFr {h₀ h : Heap} {L : Addr} {m : Str → Option Value} {hid : List Addr} (F : Fr h₀ L h m) (hL : L ∉ hid) (hf : ∀ b ∈ hid, h₀.get? b = none) : Fr h₀ L (hideAll h hid) m := by
  obtain ⟨oL, es, ep, ho, r⟩ := F.ns
  exact ⟨⟨oL, es, ep, hideAll_get _ ho hL, r⟩, fun b o e => hideAll_get _ (F.keep b o e) (fun q => by rw [hf b q] at e; cases e), F.above⟩

set_option maxHeartbeats 2000000 in
theorem parse_stop {w : World} {mean : ExcName → Option Value} {mg mb : Str → Option Value} {s : Shared} {g bs : Heap} {outer : List Env} {dp un : Nat} {fr : Option (List Env)} {gd : Option (List Code)} {R : Result → Shared → Prop}
    {it l : Addr} {i : Nat} {vs : List Value} (nw : List (Addr × Obj))
    (X : (hd.heap_39 w.params).In g) (T : TP mean mg mb g) (hg : ∀ b o, g.get? b = some o → s.heap.get? b = some o) (hgi : g.get? it = none) (hnw : ∀ p ∈ nw, s.heap.get? p.1 = some p.2 ∧ g.get? p.1 = none ∧ p.1 ≠ it) (hdp : dp < 690)
    (K : Below (AR none dp un fr gd) bs outer (hideAll s.heap (it :: nw.map (·.1))))
    (hit : s.heap.get? it = some (itObj l i)) (hl : s.heap.IsList l vs.toArray) (hx : vs[i]? = none)
    (h : ∀ h' tk e, RaisedC bs (hideAll s.heap (it :: nw.map (·.1))) outer e (.type "StopIteration") nw h' → (hideAll s.heap (it :: nw.map (·.1))).UpToSlots h' → R (.error (.ref e)) { s with heap := h', toks := tk }) :
    codeAny (model PySem.Challenge.rw_ta0015_01.row.prog w) (AR none dp un fr gd) (.call (.ref 38) ⟨[.ref it], []⟩) R s := by
  revert X
  k_fill
  intro X
  k_with_none
  refine enterH (hid := it :: nw.map (·.1)) (binds := [(Str.ofString "iterator", .ref it)]) X T hg (fun b hb => by
    rcases List.mem_cons.mp hb with rfl | hb
    · exact hgi
    · obtain ⟨p, hp, rfl⟩ := List.mem_map.mp hb; exact (hnw p hp).2.1) (by k_is) (by k_is) (roomA (by omega)) (.of_eq rfl) (locs rfl) ?_
  intro L h₁ F hkeep X₁ T₁
  have N : News (hideAll s.heap (it :: nw.map (·.1))) L h₁ ((it, itObj l i) :: nw) := fun p hp => by
    rcases List.mem_cons.mp hp with rfl | hp
    · exact ⟨(hkeep _ _ hit).1, (hkeep _ _ hit).2, hideAll_none _ (.head _)⟩
    · have q := (hnw p hp).1
      exact ⟨(hkeep _ _ q).1, (hkeep _ _ q).2, hideAll_none _ (.tail _ (List.mem_map_of_mem hp))⟩
  clear T X
  (try dsimp only)
  (try k_fold)
  k_steps
  refine goOn ?_
  refine next_stop (l := l) (i := i) (items := vs.toArray) rfl (N _ (.head _)).1 ?_ (by simpa using hx) fun h₂ h₃ e hs hx₃ => ?_
  · obtain ⟨o, ho, r⟩ := hl
    exact ⟨o, (hkeep _ _ ho).1, r⟩
  have F₂ := F.change hs (N _ (.head _)).2.1 (N _ (.head _)).2.2
  have N₂ : News (hideAll s.heap (it :: nw.map (·.1))) L h₂ nw := fun p hp => by
    have := N p (.tail _ hp)
    exact ⟨(hs.2 _ (hnw p hp).2.2).trans this.1, this.2⟩
  exact leaveC K hx₃ F₂ N₂ fun h' hR hU => h h' _ e hR hU
end Mine
end

section
open PySem PySem.W PyProof.Rows PySem.Spec
set_option Elab.async false
set_option maxRecDepth 100000
namespace Mine
open PySem.Calls

structure FitS where
  i : Nat
  vs : List Value
  ns : List Int
  k : Nat
@[reducible] def fitLed (rl I D : Addr) (ys : List Value) (cell : Addr × Obj) (c : FitS) : List (Addr × Obj) := [(rl, listOf c.vs.toArray c.k), (I, itObj D c.i), (D, listOf ys.toArray ys.length), cell]
@[reducible] def fitPs (_ : FitS) : List (Str × Value) := []
def fitP (cs : List Int) (pre : List Int) (c : FitS) : Prop := IntsAre c.vs c.ns ∧ nums 0 cs = c.ns ++ nums 0 (cs.drop c.i) ∧ c.ns.length = pre.length ∧ c.i ≤ cs.length

section
variable {prog : Program} {w : World} {A : Around} {E : Value → Shared → Prop} {s : Shared} {h₀ : Heap} {L : Addr} {m : Str → Option Value} {news : List (Addr × Obj)}
theorem iterK {D : Addr} {ys : List Value} {k : Nat} {Q : Value → Shared → Prop} (F : Fr h₀ L s.heap m) (N : News h₀ L s.heap ((D, listOf ys.toArray k) :: news))
    (h : ∀ (I : Addr) h', Fr h₀ L h' m → News h₀ L h' ((I, itObj D 0) :: (D, listOf ys.toArray k) :: news) → (∀ p ∈ (D, listOf ys.toArray k) :: news, p.1 < I) → Q (.ref I) { s with heap := h' }) :
    wpAny (model prog w) A (call (.builtin "iter") [.ref D]) Q E s := by
  refine call_function_entry (by decide +kernel) (by decide +kernel) kdk_entry_iter (kdk_args_iter _) ?_
  unfold Builtin.«iter»
  refine wpAny_bind (m := someArgs "iter" 1 2 _) (wpAny_of_eq (a := [Value.ref D]) (by first | rfl | kernel_rfl!) ?_)
  show wpAny _ _ (pyIter (.ref D) >>= _) _ _ _
  refine wpAny_bind (wpAny_pyIter_list (N.isList (.head _)) ?_)
  exact wpAny_pure ⟨_, rfl, h _ _ (F.push _) (News.push F N _ rfl) fun q hq => Heap.lt_size (N q hq).1⟩

theorem fitLoop {env : Env} {x : Str} {body : List Stmt} {Q : Flow → Shared → Prop} {r : Addr} {b₀ : Int} {t₀ u₀ v₀ : Tok} {n : Nat} {rl I D : Addr} {ys : List Value} {cell : Addr × Obj} {m₀ : Str → Option Value} (cs : List Int)
    (hh : A.handled = none) (hr : IsRange s.heap r 0 b₀ 1 t₀ u₀ v₀) (hsmall : Builtin.Range.small 0 b₀ 1 = true) (hn : Builtin.Range.rangeSize 0 b₀ 1 = (n : Int)) (F : Fr h₀ env.locals s.heap m₀)
    (N : News h₀ env.locals s.heap [(rl, listOf #[] 0), (I, itObj D 0), (D, listOf ys.toArray ys.length), cell])
    (hlt1 : D < I ∧ cell.1 < I) (hlt2 : I < rl ∧ D < rl ∧ cell.1 < rl)
    (turn : ∀ (i : Nat) (vs : List Value) (ns : List Int) (k : Nat) (pre : List Int) (j : Int) t h tk own, pre.length < n → OwnOff own [rl, I, D, cell.1] → fitP cs pre ⟨i, vs, ns, k⟩ →
      Fr h₀ env.locals h (fun y => if y = x then some (.int j t) else m₀ y) → News h₀ env.locals h ((rl, listOf vs.toArray k) :: (I, itObj D i) :: (D, listOf ys.toArray ys.length) :: cell :: own) →
      wpAny (model prog w) A (execs body env) (InvPostN h₀ env.locals (KstS (fitLed rl I D ys cell) fitPs (fun _ => True) x [] m₀ (fitP cs) (pre ++ [j])) own [rl, I, D, cell.1] { s with heap := h, toks := tk } Q) E { s with heap := h, toks := tk })
    (done : ∀ (c : FitS) (pre : List Int) (m' : Str → Option Value) h tk, pre.length = n → fitP cs pre c → Fr h₀ env.locals h m' → Q .next { s with heap := h, toks := tk }) :
    wpAny (model prog w) A (pyIter (.ref r)) (fun it s₂ => LoopAtV prog w A h₀ env x body Q E it s₂) E s := by
  refine kst_range (σ := FitS) (fitLed rl I D ys cell) fitPs (fun _ => True) [] (fitP cs) ⟨0, [], [], 0⟩ hh hr hsmall hn F N trivial (fun p hp => nomatch hp) ⟨.nil, rfl, rfl, Nat.zero_le _⟩ ?_ ?_
  · intro c pre j t u h tk own hj hlt hoff _ hP F₁ N₁
    refine turn c.i c.vs c.ns c.k pre j t h tk own hlt hoff hP ?_ N₁
    simpa [kstB] using F₁
  · intro c u h tk _ hP F₁ N₁
    exact done c _ _ h tk (rangeKs_length _ _) hP F₁
theorem fitEnd {x : Str} {own news' : List (Addr × Obj)} {s₁ : Shared} {h' : Heap} {tk i k : Nat} {items : Array Value} {rl I D : Addr} {ys : List Value} {cell : Addr × Obj} {m₀ m' : Str → Option Value} {cs pre : List Int} (ns : List Int)
    (F : Fr h₀ L h' m') (N : News h₀ L h' news') (h1 : (rl, listOf items k) ∈ news') (h2 : (I, itObj D i) ∈ news') (h3 : (D, listOf ys.toArray ys.length) ∈ news') (h4 : cell ∈ news') (ho : ∀ p ∈ own, p ∈ news')
    (hr : ∀ z, z ≠ x → m' z = m₀ z) (hp : fitP cs pre ⟨i, items.toList, ns, k⟩) :
    InvEndN h₀ L (KstS (fitLed rl I D ys cell) fitPs (fun _ => True) x [] m₀ (fitP cs) pre) own [rl, I, D, cell.1] s₁ { s₁ with heap := h', toks := tk } :=
  kst_end ⟨i, items.toList, ns, k⟩ F N (fun p hp => by
    simp only [fitLed, List.mem_cons, List.not_mem_nil, or_false, Array.toArray_toList] at hp
    rcases hp with rfl | rfl | rfl | rfl
    · exact h1
    · exact h2
    · exact h3
    · exact h4) ho rfl trivial (fun p hp => nomatch hp) (fun z hz _ _ => hr z hz) hp
end

def octs (text : Str) : List Int := List.map (fun k' => if 1 ≤ (Txt.item text k').length ∧ (Txt.item text k').length ≤ 1 then ((Txt.item text k').cps.getD 0 0 : Int) + 128 * k'.fmod 2 else k') (rangeKs 0 ((text.length : Int) - 0).toNat)
theorem alike_of : ∀ (os cs : List Int), os.length = cs.length → (∀ i (h : i < os.length) (h' : i < cs.length), os[i] % 64 = cs[i] % 64 ∧ os[i] / 64 % 2 = cs[i] / 64 % 2) → Alike os cs
  | [], [], _, _ => .nil
  | [], _ :: _, h, _ => nomatch h
  | _ :: _, [], h, _ => nomatch h
  | o :: os, c :: cs, hl, h => .cons (h 0 (by simp) (by simp)).1 (h 0 (by simp) (by simp)).2 (alike_of os cs (by simpa using hl) fun i a b => h (i + 1) (by simpa using a) (by simpa using b))
theorem octs_length (text : Str) : (octs text).length = text.length := by simp [octs, rangeKs_length]
theorem octs_get (text : Str) {i : Nat} (h : i < text.length) : (octs text)[i]? = some ((text.cps.getD i 0 : Int) + 128 * ((i : Int) % 2)) := by
  have e : (rangeKs 0 ((text.length : Int) - 0).toNat)[i]? = some (i : Int) := by simp [rangeKs, h]
  unfold octs
  rw [List.getElem?_map, e, Option.map_some]
  have e2 := item_at (x := text) (i := (i : Int)) (n := i) (by omega) (by omega) (by omega)
  rw [len_item, if_pos ⟨Nat.le_refl _, Nat.le_refl _⟩, e2, Int.fmod_eq_emod_of_nonneg _ (by decide)]
  rfl
theorem codes_get (text : Str) {i : Nat} (h : i < text.length) : (KStt.codes text)[i]? = some (text.cps.getD i 0 : Int) := by
  have h' : i < text.cps.size := h
  simp [KStt.codes, h']
theorem octs_alike (text : Str) : Alike (octs text) (KStt.codes text) := by
  refine alike_of _ _ ((octs_length _).trans (KStt.codes_length _).symm) fun i a b => ?_
  rw [octs_length] at a
  have h1 := octs_get text a
  have h2 := codes_get text a
  obtain ⟨_, e1⟩ := List.getElem?_eq_some_iff.mp h1
  obtain ⟨_, e2⟩ := List.getElem?_eq_some_iff.mp h2
  rw [e1, e2]
  omega
theorem octs_nonneg (text : Str) : ∀ x ∈ octs text, 0 ≤ x := by
  intro x hx
  obtain ⟨i, hi, rfl⟩ := List.getElem_of_mem hx
  have hi' := hi
  rw [octs_length] at hi'
  obtain ⟨_, e1⟩ := List.getElem?_eq_some_iff.mp (octs_get text hi')
  rw [e1]; omega

theorem butFr {h₀ h h' : Heap} {L I : Addr} {m : Str → Option Value} (F : Fr h₀ L h m) (hL : I ≠ L) (hn : h₀.get? I = none) (hk : ∀ b o, b ≠ I → h.get? b = some o → h'.get? b = some o) : Fr h₀ L h' m := by
  obtain ⟨oL, es, ep, ho, r⟩ := F.ns
  exact ⟨⟨oL, es, ep, hk _ _ (Ne.symm hL) ho, r⟩, fun b o e => hk b o (fun q => by rw [q, hn] at e; cases e) (F.keep b o e), F.above⟩

section
variable {w : World} {mean : ExcName → Option Value} {mg mb : Str → Option Value} {s : Shared} {dp un : Nat} {fr : Option (List Env)} {gd : Option (List Code)} {Q E : Value → Shared → Prop}
  {h₀ : Heap} {L rl I D : Addr} {m : Str → Option Value} {i n : Nat} {ol : Obj} {ys : List Value} {os : List Int} {cell : Addr × Obj} {own : List (Addr × Obj)}

theorem fit_go {env : Env} {k : Nat} {b val : Int} (X : (hd.heap_39 w.params).In h₀) (T : TP mean mg mb h₀) (hdp : dp + 1 < 690) (F : Fr h₀ L s.heap m) (N : News h₀ L s.heap ((rl, ol) :: (I, itObj D i) :: (D, listOf ys.toArray n) :: cell :: own))
    (h1 : D < I ∧ cell.1 < I) (h2 : I < rl) (ho : ∀ p ∈ own, p.1 ≠ I) (hi : IntsAre ys os) (hlen : os.length ≤ 10000) (hpos : ∀ x ∈ os, 0 ≤ x) (hb : os[i]? = some b) (hp : pvL (b % 64) b (os.drop (i + 1)) = some (val, k))
    (h : ∀ h' tk t, Fr h₀ L h' m → News h₀ L h' ((rl, ol) :: (I, itObj D (i + 1 + k)) :: (D, listOf ys.toArray n) :: cell :: own) → Q (.int val t) { s with heap := h', toks := tk }) :
    wpAny (model PySem.Challenge.rw_ta0015_01.row.prog w) ((AR none dp un fr gd).deeper env) (call (.ref 38) [.ref I]) Q E s := by
  have NI := N (I, itObj D i) (.tail _ (.head _))
  refine wpAny_call (parse_code (dp := dp + 1) (un := un + 3) (fr := fr.map (env :: ·)) (gd := gd) (g := h₀) X T F.keep NI.2.2 hdp NI.1 (N.isList (.tail _ (.tail _ (.head _)))) (Nat.ne_of_lt h1.1) hi hlen hpos hb hp fun h' tk t hk hit => ?_)
  refine h h' tk t (butFr F NI.2.1 NI.2.2 hk) fun p hp => ?_
  rcases List.mem_cons.mp hp with rfl | hp
  · have := N _ (.head _); exact ⟨hk _ _ (Nat.ne_of_gt h2) this.1, this.2⟩
  rcases List.mem_cons.mp hp with rfl | hp
  · exact ⟨hit, NI.2⟩
  · have := N p (.tail _ (.tail _ hp))
    refine ⟨hk _ _ ?_ this.1, this.2⟩
    rcases List.mem_cons.mp hp with rfl | hp
    · exact Nat.ne_of_lt h1.1
    rcases List.mem_cons.mp hp with rfl | hp
    · exact Nat.ne_of_lt h1.2
    · exact ho p hp

theorem fit_stop {bs : Heap} {outer : List Env} {env : Env} (X : (hd.heap_39 w.params).In h₀) (T : TP mean mg mb h₀) (hdp : dp < 680) (K : Below (AR none dp un fr gd) bs outer h₀) (F : Fr h₀ L s.heap m) (N : News h₀ L s.heap ((rl, ol) :: (I, itObj D i) :: (D, listOf ys.toArray n) :: cell :: own))
    (h1 : D < I ∧ cell.1 < I) (h2 : I < rl) (hi : IntsAre ys os) (hx : os.length ≤ i) (hf : env.frame = some L) (hk : env.scope.kind = .function)
    (h : ∀ h' tk e G, Fr h₀ L G m → RaisedC bs G (env :: outer) e (.type "StopIteration") [(rl, ol), cell] h' → G.UpToSlots h' → E (.ref e) { s with heap := h', toks := tk }) :
    wpAny (model PySem.Challenge.rw_ta0015_01.row.prog w) ((AR none dp un fr gd).deeper env) (call (.ref 38) [.ref I]) Q E s := by
  have NI := N (I, itObj D i) (.tail _ (.head _))
  have NR := N (rl, ol) (.head _)
  have NC := N cell (.tail _ (.tail _ (.tail _ (.head _))))
  have FG : Fr h₀ L (hideAll s.heap [I, rl, cell.1]) m := by
    refine hideFr F (fun q => ?_) fun b hb => ?_
    · simp only [List.mem_cons, List.not_mem_nil, or_false] at q
      rcases q with q | q | q
      · exact NI.2.1 q.symm
      · exact NR.2.1 q.symm
      · exact NC.2.1 q.symm
    · simp only [List.mem_cons, List.not_mem_nil, or_false] at hb
      rcases hb with rfl | rfl | rfl
      · exact NI.2.2
      · exact NR.2.2
      · exact NC.2.2
  have KP : Below (AR none (dp + 1) (un + 3) (fr.map (env :: ·)) gd) bs (env :: outer) (hideAll s.heap [I, rl, cell.1]) := pushX K FG hf hk
  refine wpAny_call (parse_stop (dp := dp + 1) (un := un + 3) (fr := fr.map (env :: ·)) (gd := gd) [(rl, ol), cell] (g := h₀) X T F.keep NI.2.2 ?_ (by omega) KP NI.1 (N.isList (.tail _ (.tail _ (.head _)))) (List.getElem?_eq_none (by rw [hi.length]; exact hx)) fun h' tk e hR hU => h h' tk e _ FG hR hU)
  intro p hp
  rcases List.mem_cons.mp hp with rfl | hp
  · exact ⟨NR.1, NR.2.2, Nat.ne_of_gt h2⟩
  · rw [List.mem_singleton.mp hp]
    exact ⟨NC.1, NC.2.2, Nat.ne_of_lt h1.2⟩
end

theorem eq_same {prog : Program} {w : World} {A : Around} {E : Value → Shared → Prop} {s : Shared} {a b : Addr} {vs us : List Value} {ns ms : List Int} {Q : Value → Shared → Prop} (hl : s.heap.IsList a vs.toArray) (hi : IntsAre vs ns) (hl' : s.heap.IsList b us.toArray) (hi' : IntsAre us ms) (e : ns = ms) (hu : A.units + 64 < cLine)
    (h : Q (.bool true) s) : wpAny (model prog w) A (compareOp .Eq (.ref a) (.ref b)) Q E s :=
  eq_intsK hl hi hl' hi' hu (by rw [decide_eq_true e]; exact h)

theorem pairFigs {rvs ys : List Value} {row : List Int} (hi : IntsAre rvs row) (hp : Paired (fun v y => ∃ n t t', v = Value.int n t ∧ y = Value.int ((figs n).length : Int) t') rvs ys) : IntsAre ys (row.map fun n => ((figs n).length : Int)) := by
  induction hp generalizing row with
  | nil => cases hi; exact .nil
  | cons h _ ih =>
    obtain ⟨n, t, t', rfl, rfl⟩ := h
    cases hi with
    | cons _ _ hh => exact .cons _ _ (ih hh)
theorem same_list {α : Type} {xs ys : List α} : xs.length = ys.length → (∀ (j : Nat) (v : α), xs[j]? = some v → ys[j]? = some v) → xs = ys := by
  intro hl h
  refine List.ext_getElem hl fun i h1 h2 => ?_
  have := h i xs[i] (by simp [h1])
  obtain ⟨_, e⟩ := List.getElem?_eq_some_iff.mp this
  exact e.symm
theorem sumH {prog : Program} {w : World} {A : Around} {E : Value → Shared → Prop} {s : Shared} {l e : Addr} {vs : Array Value} {ns : List Int} {Q : Value → Shared → Prop} (hh : A.handled = some (.ref e)) (hc : CtxNone s.heap e) (hl : s.heap.IsList l vs) (hi : IntsAre vs.toList ns)
    (h : ∀ h' tk t', (∀ b o, s.heap.get? b = some o → h'.get? b = some o) → Q (.int ns.sum t') { s with heap := h', toks := tk }) :
    wpAny (model prog w) A (call (.builtin "sum") [.ref l]) Q E s := by
  obtain ⟨xs, hx⟩ := hi.allInts.items
  have hn : numsOf vs.toList = ns := by rw [hi.numsOf]
  have hx' : vs = intItems xs := by simpa using hx
  subst hx'
  rw [PySem.nums_intItems] at hn
  have hle : l < s.heap.objs.size := by obtain ⟨o, ho, _⟩ := hl; exact Heap.lt_size ho
  have hee : e < s.heap.objs.size := by obtain ⟨o, _, ho, _⟩ := hc; exact Heap.lt_size ho
  refine call_sum_walkG (wpAny_pyIter_list hl ?_)
  refine ⟨_, _, _, _, _, _, numAt xs, rfl, walksH (e := e) (A := A.in1) hh _ l (Nat.ne_of_lt hle) (Nat.ne_of_gt hee) (intItems xs), ⟨⟨_, Heap.get?_push_size _ rfl, rfl, rfl⟩, hl.at fun o e => Heap.get?_push_of_some _ e, hc.at fun o e => Heap.get?_push_of_some _ e⟩, ?_, (fun _ _ => intItems_at), fun h' tk t' hk => ?_⟩
  · intro b hb
    show b < (s.heap.push _).objs.size
    rw [Heap.size_push]
    simp only [List.mem_cons, List.not_mem_nil, or_false] at hb
    rcases hb with rfl | rfl | rfl
    · exact Nat.lt_succ_self _
    · exact Nat.lt_succ_of_lt hle
    · exact Nat.lt_succ_of_lt hee
  · have := h h' tk t' (old_kept hk)
    rw [preSum_eq, List.take_of_length_le (by simp [intItems]), hn]
    exact this

theorem nameG_B {M : Model} {A : Around} {E : Value → Shared → Prop} {s : Shared} {h₀ : Heap} {L : Addr} {m : Str → Option Value} {env : Env} {K : Frag} {mg mb : Str → Option Value} {p : Program} {loose : List Str} {x : Str} {pos : Pos} {v : Value} {Q : Value → Shared → Prop} (F : Fr h₀ L s.heap m) (X : K.In h₀) (T : TopRead p loose mg mb h₀)
    (e : nsIn K mainGlobals x = some none) (hv : bootBuiltins x = some v) (hn : x ≠ "__name__") (h : Q v s) (hg : env.globals = mainGlobals) (hb : env.builtins = builtinsNs) (hk : env.scope.kind = .function) (hx : env.kindOf x = some .globalImplicit) (hd : (x == ("__debug__" : Str)) = false) :
    wpAny M A (eval (.Name x pos) env) Q E s :=
  Name_function_global hk hx (loadGlobal_builtin (env := env) (by rw [hg]; exact T.g.keeps F.keep) (mg_none_of X T.g e) (by rw [hb]; exact T.b.keeps F.keep) ((T.builtins x hn).trans hv) h) hd

local macro_rules | `(tactic| walk_at "compareOp Eq ref ref") => `(tactic| k_dflt (refine eq_same (News.isList (by assumption) (by k_mem)) (by assumption) (Heap.IsList.at (by assumption) (fun o e => Fr.keep (by assumption) _ _ e)) (by assumption) (by assumption) (by dsimp only [Around.mark, Around.deeper]; omega) ?_))
local macro_rules | `(tactic| walk_at "call builtin:sum") => `(tactic| refine stop ?_)
local macro_rules | `(tactic| walk_at "pyIter ref") => `(tactic| refine stop ?_)
local macro_rules | `(tactic| walk_at "call ref") => `(tactic| refine stop ?_)
local macro_rules | `(tactic| walk_at "call builtin:iter") => `(tactic| k_dflt (refine iterK (by assumption) (by assumption) ?_; intro I' h' F' N' l1; k_lt l1))

set_option maxHeartbeats 700000 in
theorem fits_code {w : World} {mean : ExcName → Option Value} {mg mb : Str → Option Value} {s : Shared} {bs : Heap} {outer : List Env} {dp un : Nat} {fr : Option (List Env)} {gd : Option (List Code)} {R : Result → Shared → Prop}
    {l : Addr} {rvs : List Value} {row : List Int} {text : Str} {t : Tok}
    (X : (hd.heap_39 w.params).In s.heap) (T : TP mean mg mb s.heap) (XB : (hd.heap_39 w.params).In bs) (TB : TP mean mg mb bs) (K : Below (AR none dp un fr gd) bs outer s.heap) (hdp : dp < 650) (hun : un + 200 < cLine)
    (hl : s.heap.IsList l rvs.toArray) (hi : IntsAre rvs row) (hlen : text.length ≤ 10000) (hgood : Good (KStt.codes text)) (hrow : row = nums 0 (KStt.codes text)) (hne : KStt.codes text ≠ [])
    (hback : ∀ h' tk g', KtsTurn (outer.filterMap (·.frame)) s.heap g' → (∀ b o, g'.get? b = some o → h'.get? b = some o) → R (.ok (.ret (.bool true))) { s with heap := h', toks := tk }) :
    codeAny (model PySem.Challenge.rw_ta0015_01.row.prog w) (AR none dp un fr gd) (.call (.ref 167) ⟨[.str text t, .ref l], []⟩) R s := by
  revert X
  k_fill
  intro X
  k_with_none
  refine enterC (hid := []) (g := s.heap) (binds := [(Str.ofString "text", .str text t), (Str.ofString "row", .ref l)]) X T (fun b o e => e) (fun b hb => nomatch hb) (by k_is) (by k_is) (roomA (by omega)) (.of_eq rfl) rfl (by decide +kernel) ?_
  intro L h₁ tk cells F N Y hkeep X₁ T₁
  obtain ⟨o', hE', d1'⟩ := CellsAre.one Y
  subst hE'
  clear Y X₁ T₁
  (try dsimp only [hideAll] at *)
  (try dsimp only)
  (try k_fold)
  k_steps
  refine goOn ?_
  refine' fitLoop (n := text.length + 1) (KStt.codes text) rfl (by assumption) ?hsmall ?hn (by assumption) (by assumption) (by assumption) (by assumption) ?_ ?_
  (case hsmall => exact small_one (by decide) (by decide) (by omega) (by omega))
  (case hn => rw [rangeSize_pos (by decide) (by omega)]; omega)
  · intro i vs ns k pre j tj h tk own hpre hoff hP F N
    obtain ⟨hI, hsplit, hnl, hil⟩ := hP
    dsimp only at hI hsplit hnl hil
    k_steps
    refine wpAny_Try_except ?_
    k_steps
    refine goOn ?_
    have hIo : IntsAre ys (octs text) := by assumption
    have hod := (octs_alike text).drop i
    have hg := hgood.drop i
    by_cases hend : i = (KStt.codes text).length
    · refine fit_stop (bs := bs) (outer := outer) X T (by omega) K F N (by assumption) (And.left (by assumption)) hIo (by rw [octs_length, hend, KStt.codes_length]; exact Nat.le_refl _) rfl rfl ?_
      intro h' tk' e G FG hR hU
      refine caughtC hR FG K hU XB TB (by k_is) ?_ rfl rfl (by passes_own)
      intro h6 g' Tn F6 N6 X6 T6 hge heL hne6 hctx
      have hl6 : g'.IsList l rvs.toArray := by
        obtain ⟨o, ho, hc, k', hd'⟩ := hl
        by_cases hm : l ∈ outer.filterMap (·.frame)
        · obtain ⟨sl, hs⟩ := Tn.frame _ _ ho hm
          exact ⟨_, hs, hc, k', hd'⟩
        · exact ⟨o, Tn.other _ _ ho hm, hc, k', hd'⟩
      have hns : ns = row := by
        rw [hrow, hsplit, List.drop_eq_nil_of_le (by omega)]
        simp [nums]
      have hfs : figSum row = (text.length : Int) := by
        rw [hrow, figSum_nums _ 0 hne hgood (Int.le_refl _), if_pos rfl, KStt.codes_length]; omega
      have hfig : ∀ x ∈ row, (figs x).length ≤ 10000 := fun x hx => by
        have := figSum_mem hx
        omega
      clear X T F N hl XB TB
      k_steps
      refine goOn ?_
      refine wpAny_pyIter_list (Heap.IsList.at hl6 fun o e => F6.keep l o e) ?_
      have hctx' : CtxNone h6 e := hctx
      obtain ⟨oe, vse, hoe, hrest⟩ := id hctx'
      have hle : l < h6.objs.size := by obtain ⟨o, ho, _⟩ := hl6; exact Heap.lt_size (F6.keep _ _ ho)
      have hee : e < h6.objs.size := Heap.lt_size hoe
      refine ⟨fun _ => true, fun v y => ∃ n t t', v = .int n t ∧ y = .int ((figs n).length : Int) t', _, _, _, _, _, _, rfl, walksH (e := e) rfl _ l (Nat.ne_of_lt hle) (Nat.ne_of_gt hee) rvs.toArray, ?_, ?_, ?_, ⟨?_, ?_⟩, ?_⟩
      · rw [List.size_toArray, hi.length, hrow, sizeLine_eq]
        have := nums_length (KStt.codes text) 0
        rw [KStt.codes_length] at this
        omega
      · exact ⟨⟨_, Heap.get?_push_size _ rfl, rfl, rfl⟩, Heap.IsList.at (Heap.IsList.at hl6 fun o e => F6.keep l o e) fun o e => Heap.get?_push_of_some _ e, hctx'.at fun o e => Heap.get?_push_of_some _ e⟩
      · intro b hb
        show b < (h6.push _).objs.size
        rw [Heap.size_push]
        simp only [List.mem_cons, List.not_mem_nil, or_false] at hb
        rcases hb with rfl | rfl | rfl
        · exact Nat.lt_succ_self _
        · exact Nat.lt_succ_of_lt hle
        · exact Nat.lt_succ_of_lt hee
      · intro C i' v s₃ m₃ E' _ _ _ _ _
        exact wpAny_pure ⟨rfl, s₃.heap, s₃.toks, rfl, fun _ _ e => e⟩
      · intro C i' v s₃ m₃ E' hv _ hn hm hk _
        have hv' : rvs[i']? = some v := by simpa using hv
        obtain ⟨hlt, _⟩ := List.getElem?_eq_some_iff.mp hv'
        rw [hi.length] at hlt
        obtain ⟨tv, htv⟩ := hi.get i' row[i'] (by simp [hlt])
        rw [htv] at hv'
        obtain rfl : Value.int row[i'] tv = v := Option.some.inj hv'
        have hsn : 0 ≤ row[i'] := nums_nonneg (KStt.codes text) 0 (Int.le_refl _) row[i'] (by rw [← hrow]; exact List.getElem_mem hlt)
        generalize hg0 : row[i'] = num at *
        have hk' : ∀ b o, h6.get? b = some o → s₃.heap.get? b = some o := fun b o eo => hk b o (fun q => by
          have := Heap.lt_size eo
          rw [List.mem_singleton.mp q] at this
          exact absurd this (Nat.lt_irrefl _)) (Heap.get?_push_of_some _ eo)
        have F7 := F6.keeps hk'
        have N7 := N6.grown hk'
        clear F6 N6 hk
        k_steps
        refine nameG_B F7 X6 (topRead_of T6) (by k_is) (by boot_by_name) (by decide) ?_ rfl rfl rfl rfl (by decide)
        k_steps
        refine goOn ?_
        rename Fr _ _ _ _ => F7
        rename News _ _ _ _ => N7
        have hfl : (figs num).length ≤ 10000 := hfig _ (by rw [← hg0]; exact List.getElem_mem hlt)
        refine wpAny_call (figures_code (X6.keeps F7.keep) (T6.keeps F7.keep) (by dsimp only [Around.mark, Around.deeper]; omega) hsn hfl ?_)
        intro h8 tk8 a8 n8 vs8 hk8 hn8 ha8 hI8
        obtain ⟨F8, N8, hne8⟩ := news_add F7 N7 hk8 hn8 ha8
        have hlen8 := hI8.length
        k_steps
        exact ⟨h8, _, rfl, hk8⟩
      · intro D hD tkD ysD vsD hDn hDl _ hvl hvi hpair hkD
        have hkD' : ∀ b o, h6.get? b = some o → hD.get? b = some o := fun b o eo => hkD b o (fun q => by
          have := Heap.lt_size eo
          rw [List.mem_singleton.mp q] at this
          exact absurd this (Nat.lt_irrefl _)) (Heap.get?_push_of_some _ eo)
        have hID : IntsAre ysD.toList (row.map fun n => ((figs n).length : Int)) := by
          refine pairFigs hi ?_
          rw [List.filter_eq_self.mpr (fun _ _ => rfl)] at hpair
          have hvD : vsD = rvs := same_list (by rw [hvl]; rfl) fun j v hj => by simpa using hvi j v hj
          rw [← hvD]; exact hpair
        have F9 := F6.keeps hkD'
        have N9 := N6.grown hkD'
        clear hpair hvl hvi hkD F6 N6
        k_steps
        refine goOn ?_
        have hcD : CtxNone hD e := hctx'.at fun o eo => hkD' _ o eo
        refine sumH (e := e) (l := D) (vs := ysD) ?_ ?_ ?_ hID ?_
        · rfl
        · exact hcD
        · exact hDl
        intro h10 tk10 t10 hk10
        have F10 := F9.keeps hk10
        have N10 := N9.grown hk10
        clear F9 N9
        rw [show (List.map (fun n => ((figs n).length : Int)) row).sum = figSum row from rfl, hfs]
        k_steps
        rw [show ((text.length : Int) == (text.length : Int)) = true by simp]
        exact hback h10 tk10 g' Tn F10.keep
    · have hlt : i < (KStt.codes text).length := by omega
      have hit : i < text.length := by rw [← KStt.codes_length]; exact hlt
      obtain ⟨hb1, hb2⟩ := List.getElem?_eq_some_iff.mp (octs_get text hit)
      obtain ⟨hc1, hc2⟩ := List.getElem?_eq_some_iff.mp (codes_get text hit)
      rw [List.drop_eq_getElem_cons hb1, List.drop_eq_getElem_cons hc1, hb2, hc2] at hod
      rw [List.drop_eq_getElem_cons hc1, hc2] at hg
      cases hod with
      | cons ha1 ha2 ha3 =>
      obtain ⟨val, k', hpv, hnv, hkl⟩ := pvL_nums _ _ 0 _ _ hg ha3 ha2
      rw [show (64 : Int) * 0 + (text.cps.getD i 0 : Int) % 64 = (text.cps.getD i 0 : Int) % 64 by omega, ← ha1] at hpv
      refine fit_go (k := k') (val := val) X T (by omega) F N (by assumption) (And.left (by assumption)) ?_ hIo (by rw [octs_length]; exact hlen) (octs_nonneg text) (octs_get text hit) hpv ?_
      · intro p hp q
        exact hoff p hp _ (by simp) q
      intro h6 tk6 t6 F6 N6
      have hc2' := hc2
      clear F N hg ha3 hpv hb2 hc2
      k_steps
      refine fitEnd (i := i + 1 + k') (ns ++ [val]) (by assumption) (by assumption) (by k_mem) (by k_mem) (by k_mem) (by k_mem) (fun p hp => List.mem_cons_of_mem _ (List.mem_cons_of_mem _ (List.mem_cons_of_mem _ (List.mem_cons_of_mem _ hp)))) ?_ ?_
      · intro z hz; exact if_neg hz
      · refine ⟨?_, ?_, ?_, ?_⟩
        · exact ints_push (items := vs.toArray) (by simpa using hI)
        · dsimp only
          rw [hsplit, List.drop_eq_getElem_cons hc1, hc2', hnv, List.drop_drop, List.append_assoc]; rfl
        · simp [hnl]
        · rw [List.length_drop] at hkl; dsimp only; omega
  · intro c pre m' h tk hpl hP F
    exfalso
    obtain ⟨hI, hsplit, hnl, hil⟩ := hP
    have h1 := congrArg List.length hsplit
    have h2 := nums_length (KStt.codes text) 0
    rw [KStt.codes_length] at h2
    rw [List.length_append] at h1
    omega
end Mine
end

section
open PySem PySem.W PyProof.Rows PySem.Spec
set_option Elab.async false
set_option maxRecDepth 100000
namespace Mine
open PySem.Calls

def signs : List Int := [32, 34, 40, 41, 44, 47, 58, 59, 60, 61, 62, 63]
def marks : List Int := [27, 28, 29]
def spec1 (n : Int) : Bool := signs.contains (n % 64) || !((figs n).dropLast.filter (marks.contains ·)).isEmpty
def madeStep (m f : Int) : Int := if f = 28 then 64 * (64 * m + f) + 28 else 64 * m + f
def made (fs : List Int) : Int := fs.foldl madeStep 0
def held1 (n : Int) : Int := 64 * (if n % 64 = 34 then 64 * made (figs n).dropLast + 28 else made (figs n).dropLast) + n % 64
def held (wished : Bool) (row : List Int) : List Int := if wished || row.any spec1 then [3133, 34] ++ row.map held1 ++ [34] else [3133] ++ row

def heldP0 (wished : Bool) (pre : List Int) (c : Sta) : Prop := c.vs = [] ∧ c.ns = [] ∧ c.k = 0 ∧ c.ps = [(Str.ofString "special", .bool (wished || pre.any spec1))]

theorem pick_init {vd : List Value} {v : Value} : kms_pick (vd ++ [v]).toArray.toList none (some (-1)) = vd := by
  simp [kms_pick, kms_lo, kms_hi]
theorem ints_last {vs : List Value} {ns : List Int} {n : Int} (h : IntsAre vs (ns ++ [n])) : ∃ vd t, vs = vd ++ [.int n t] ∧ IntsAre vd ns := by
  induction ns generalizing vs with
  | nil =>
    cases h with
    | cons a t h => cases h; exact ⟨[], t, rfl, .nil⟩
  | cons m r ih =>
    cases h with
    | cons a t h =>
      obtain ⟨vd, tl, rfl, h'⟩ := ih h
      exact ⟨_, tl, rfl, .cons _ _ h'⟩

theorem ints_have {vs : List Value} {ns : List Int} {i : Nat} {v : Value} (hi : IntsAre vs ns) (h : vs[i]? = some v) : ∃ n t, v = .int n t ∧ n ∈ ns := by
  obtain ⟨hlt, _⟩ := List.getElem?_eq_some_iff.mp h
  rw [hi.length] at hlt
  obtain ⟨tv, htv⟩ := hi.get i ns[i] (by simp [hlt])
  rw [htv] at h
  exact ⟨_, tv, (Option.some.inj h).symm, List.getElem_mem hlt⟩
theorem same_listH {α : Type} {xs ys : List α} : xs.length = ys.length → (∀ (j : Nat) (v : α), xs[j]? = some v → ys[j]? = some v) → xs = ys := by
  intro hl h
  refine List.ext_getElem hl fun i h1 h2 => ?_
  have := h i xs[i] (by simp [h1])
  obtain ⟨_, e⟩ := List.getElem?_eq_some_iff.mp this
  exact e.symm
def keepInt (keep : Int → Bool) (v : Value) : Bool := match v with
  | .int m _ => keep m
  | _ => false
theorem pair_keep {keep : Int → Bool} : ∀ {vs : List Value} {ns : List Int}, IntsAre vs ns → ∀ ys, Paired (fun v y : Value => v = y) (vs.filter (keepInt keep)) ys → IntsAre ys (ns.filter keep)
  | _, _, .nil, ys, h => by cases h; exact .nil
  | _, _, .cons n t hi, ys, h => by
    rw [List.filter_cons] at h ⊢
    by_cases hk : keep n = true
    · rw [if_pos (show keepInt keep (.int n t) = true from hk)] at h
      rw [if_pos hk]
      cases h with
      | cons e h => subst e; exact .cons _ _ (pair_keep hi _ h)
    · rw [if_neg (show ¬ keepInt keep (.int n t) = true from hk)] at h
      rw [if_neg hk]
      exact pair_keep hi _ h
theorem compInts {prog : Program} {w : World} {A : Around} {E : Value → Shared → Prop} {s : Shared} {h₀ : Heap} {L : Addr} {m : Str → Option Value} {news : List (Addr × Obj)} {env : Env} {scope : Scope} {x : Str} {ifs : List Expr} {elt : Expr} {Q : Value → Shared → Prop}
    {l : Addr} {vs : List Value} {ns : List Int} (hh : A.handled = none) (F : Fr h₀ L s.heap m) (N : News h₀ L s.heap news) (hl : s.heap.IsList l vs.toArray) (hi : IntsAre vs ns) (hsz : vs.length ≤ sizeLine) (keep : Int → Bool)
    (hq : ∀ s₂ : Shared, (∀ b o, s.heap.get? b = some o → s₂.heap.get? b = some o) → QuietOn prog w A env scope x ifs elt [s.heap.objs.size] (fun i v => vs.toArray[i]? = some v) (keepInt keep) (fun v y => v = y) s₂)
    (h : ∀ (D : Addr) (h' : Heap) (tk k : Nat) (ys : List Value), Fr h₀ L h' m → News h₀ L h' ((D, listOf ys.toArray k) :: news) → IntsAre ys (ns.filter keep) → Q (.ref D) { s with heap := h', toks := tk }) :
    wpAny (model prog w) A (pyIter (.ref l)) (CompPost prog w A env scope x ifs elt Q) E s := by
  refine wpAny_pyIter_list hl ?_
  have hle : l < s.heap.objs.size := by obtain ⟨o, ho, _⟩ := hl; exact Heap.lt_size ho
  refine ⟨keepInt keep, fun v y => v = y, _, _, _, _, _, _, rfl, Walks.list hh _ l (Nat.ne_of_lt hle) vs.toArray, by simpa using hsz, ?_, ?_, hq _ fun b o e => Heap.get?_push_of_some _ e, ?_⟩
  · exact ⟨⟨_, Heap.get?_push_size _ rfl, rfl, rfl⟩, hl.at fun o e => Heap.get?_push_of_some _ e⟩
  · intro b hb
    show b < (s.heap.push _).objs.size
    rw [Heap.size_push]
    simp only [List.mem_cons, List.not_mem_nil, or_false] at hb
    rcases hb with rfl | rfl
    · exact Nat.lt_succ_self _
    · exact Nat.lt_succ_of_lt hle
  · intro D hD tkD ysD vsD hDn _ hDl hvl hvi hpair hkD
    have hkD' : ∀ b o, s.heap.get? b = some o → hD.get? b = some o := fun b o eo => hkD b o (fun q => by
      have := Heap.lt_size eo
      rw [List.mem_singleton.mp q] at this
      exact absurd this (Nat.lt_irrefl _)) (Heap.get?_push_of_some _ eo)
    have hvD : vsD = vs := same_listH (by rw [hvl]; simp) fun j v hj => by simpa using hvi j v hj
    rw [hvD] at hpair
    obtain ⟨k, hDl⟩ := hDl
    have hDn' : s.heap.get? D = none := by
      cases e : s.heap.get? D with
      | none => rfl
      | some o => rw [show Heap.get? _ D = _ from Heap.get?_push_of_some _ e] at hDn; cases hDn
    have hDl' : hD.get? D = some (listOf ysD.toList.toArray k) := by simpa using hDl
    obtain ⟨F', N', _⟩ := news_add F N hkD' hDn' hDl'
    exact h D hD tkD k ysD.toList F' N' (pair_keep hi _ hpair)

structure MadeS where
  m : Int
  t : Tok
section
variable {prog : Program} {w : World} {A : Around} {E : Value → Shared → Prop} {s : Shared} {env : Env} {h₀ : Heap} {x : Str} {body : List Stmt} {Q : Flow → Shared → Prop}
def madeP (pre : List Int) (c : MadeS) : Prop := c.m = made pre
theorem loopMade {D : Addr} {k : Nat} {vs : List Value} {ns : List Int} {m₀ : Str → Option Value} {v₀ : MadeS} (y : Str) (news : List (Addr × Obj)) (P : List Int → MadeS → Prop)
    (hh : A.handled = none) (hl : (D, listOf vs.toArray k) ∈ news) (hi : IntsAre vs ns) (F : Fr h₀ env.locals s.heap m₀) (N : News h₀ env.locals s.heap news) (hk : m₀ y = some (.int v₀.m v₀.t)) (hp : P [] v₀)
    (turn : ∀ (c : MadeS) (pre post : List Int) (n : Int) t h tk own, ns = pre ++ n :: post → OwnOff own (news.map (·.1)) → P pre c →
      Fr h₀ env.locals h (fun z => if z = x then some (.int n t) else if z = y then some (.int c.m c.t) else m₀ z) → News h₀ env.locals h (news ++ own) →
      wpAny (model prog w) A (execs body env) (InvPostN h₀ env.locals (KstS (fun _ => news) (fun c : MadeS => [(y, .int c.m c.t)]) (fun _ => True) x [] m₀ P (pre ++ [n])) own (news.map (·.1)) { s with heap := h, toks := tk } Q) E { s with heap := h, toks := tk })
    (done : ∀ (c : MadeS) (u : Option Value) h tk, P ns c → Fr h₀ env.locals h (fun z => if z = x then u else if z = y then some (.int c.m c.t) else m₀ z) → News h₀ env.locals h news → Q .next { s with heap := h, toks := tk }) :
    wpAny (model prog w) A (pyIter (.ref D)) (fun it s₂ => LoopAtV prog w A h₀ env x body Q E it s₂) E s :=
  kst_listL (fun _ : MadeS => news) (fun c => [(y, .int c.m c.t)]) (fun _ => True) [] P v₀ hh (fun _ => hl) hi F N trivial (fun p hp => by rw [List.mem_singleton.mp hp]; exact hk) hp
    (fun c pre post n t u h tk own e _ ho _ hP F N => turn c pre post n t h tk own e ho hP (by simpa [kstB] using F) N) (fun c u h tk _ hP F N => done c (u x) h tk hP (by
      have e : (fun z => if z = x then u x else if z = y then some (Value.int c.m c.t) else m₀ z) = (fun z => if z = x then u z else kstB (fun z => if [].contains z = true then u z else m₀ z) [(y, .int c.m c.t)] z) := by
        funext z
        by_cases hz : z = x
        · subst hz; simp
        · simp [hz, kstB]
      rw [e]; exact F) N)
theorem madeEnd {y : Str} {news own news' : List (Addr × Obj)} {P : List Int → MadeS → Prop} {pre : List Int} {m₀ m' : Str → Option Value} {L : Addr} {h' : Heap} {tk : Nat} {s₁ : Shared} {v : Int} {t : Tok}
    (F : Fr h₀ L h' m') (N : News h₀ L h' news') (hn : ∀ p ∈ news ++ own, p ∈ news') (hv : m' y = some (.int v t)) (hr : ∀ z, z ≠ x → z ≠ y → m' z = m₀ z) (hp : P pre ⟨v, t⟩) :
    InvEndN h₀ L (KstS (fun _ => news) (fun c : MadeS => [(y, .int c.m c.t)]) (fun _ => True) x [] m₀ P pre) own (news.map (·.1)) s₁ { s₁ with heap := h', toks := tk } :=
  kst_end (⟨v, t⟩ : MadeS) F N (fun p hp => hn p (List.mem_append_left _ hp)) (fun p hp => hn p (List.mem_append_right _ hp)) rfl trivial (fun p hp => by rw [List.mem_singleton.mp hp]; exact hv) (fun z h1 h2 _ => hr z h1 (h2 _ (.head _))) hp
end
theorem News.first2 {h₀ h : Heap} {L : Addr} {p q r : Addr × Obj} {own : List (Addr × Obj)} (N : News h₀ L h (p :: q :: r :: own)) : News h₀ L h (r :: q :: own) := fun x hx => by
  rcases List.mem_cons.mp hx with rfl | hx
  · exact N _ (.tail _ (.tail _ (.head _)))
  rcases List.mem_cons.mp hx with rfl | hx
  · exact N _ (.tail _ (.head _))
  · exact N _ (.tail _ (.tail _ (.tail _ hx)))
theorem apart {a out : Addr} {o1 o2 : Obj} {own : List (Addr × Obj)} (hne : ∀ p ∈ (out, o1) :: own, p.1 ≠ a) (hoff : OwnOff own [out]) : ∀ p ∈ (a, o2) :: own, p.1 ≠ out := fun p hp => by
  rcases List.mem_cons.mp hp with rfl | hp
  · exact fun q => hne _ (.head _) q.symm
  · exact hoff p hp _ (.head _)
theorem append1 {prog : Program} {w : World} {A : Around} {E : Value → Shared → Prop} {s : Shared} {h₀ : Heap} {L D : Addr} {m : Str → Option Value} {vs : List Value} {x : Value} {n : Nat} {rest : List (Addr × Obj)} {Q : Value → Shared → Prop} (F : Fr h₀ L s.heap m) (N : News h₀ L s.heap ((D, listOf vs.toArray n) :: rest)) (hap : ∀ p ∈ rest, p.1 ≠ D) (hsz : vs.length ≤ 1000000)
    (h : ∀ h', Fr h₀ L h' m → News h₀ L h' ((D, listOf (vs ++ [x]).toArray (n + 1)) :: rest) → Q .none { s with heap := h' }) : wpAny (model prog w) A (call (.builtin "list.append") [.ref D, x]) Q E s :=
  append_in (own := []) F N (fun _ hp => nomatch hp) hap h (by rw [sizeLine_eq]; omega)
theorem three_off {z : Str} (h : [Str.ofString "figures", Str.ofString "made", Str.ofString "figure"].contains z = false) : z ≠ Str.ofString "figures" ∧ z ≠ Str.ofString "made" ∧ z ≠ Str.ofString "figure" := by
  refine ⟨fun q => ?_, fun q => ?_, fun q => ?_⟩ <;> (subst q; exact absurd h (by decide))
theorem made_snoc (fs : List Int) (f : Int) : made (fs ++ [f]) = madeStep (made fs) f := by simp [made]
def heldP1 (pre : List Int) (c : Sta) : Prop := IntsAre c.vs c.ns ∧ c.ps = [] ∧ c.ns = [3133, 34] ++ pre.map held1

theorem spec_eq {n : Int} {dl : List Int} (hdl : (figs n).dropLast = dl) {a b : Bool} (ha : (signs.any fun x => x == n % 64) = a) (hb : decide (List.filter (fun x => marks.contains x) dl = []) = b) : spec1 n = (a || !b) := by
  unfold spec1
  rw [hdl, ← ha, ← hb, List.contains_eq_any_beq]
  have e1 : (signs.any fun x => x == n % 64) = (signs.any fun x => n % 64 == x) := by congr 1; funext x; exact BEq.comm
  rw [e1]
  congr 1
  generalize List.filter (fun x => marks.contains x) dl = fl
  cases fl <;> simp
theorem spec_go {wished : Bool} {pre : List Int} {n : Int} {c : Bool} (h : spec1 n = c) : (wished || (pre ++ [n]).any spec1) = ((wished || pre.any spec1) || c) := by
  rw [List.any_append, ← Bool.or_assoc]; simp [h]

local macro_rules | `(tactic| walk_at "exec For") => `(tactic| k_dflt ((with_reducible show wpAny _ _ (exec (Stmt.For (Expr.Name _ _) (Expr.Subscript _ _ _) _ [] _) _) _ _ _); refine For_invVF (by assumption) (by rfl) (by rfl) ?_))
local macro_rules | `(tactic| walk_at "call builtin:list.append") => `(tactic| k_dflt (refine append1 (by assumption) (by assumption) (by assumption) (Nat.le_trans (by assumption) (by decide : (10002 : Nat) ≤ 1000000)) ?_; intro h' F' N'))
local macro_rules | `(tactic| walk_at "newList") => `(tactic| (goal_has Keeps; refine stop ?_))
local macro_rules | `(tactic| walk_at "compareOp In int ref") => `(tactic| k_dflt (goal_has Keeps; refine in_list_ints (by assumption) (by assumption) ?_))
local macro_rules | `(tactic| walk_at "compareOp NotEq ref ref") => `(tactic| k_dflt (refine ne_intsK (News.isList (by assumption) (by k_mem)) (by assumption) (News.isList (by assumption) (by k_mem)) IntsAre.nil (by dsimp only [Around.mark, Around.deeper, AR]; omega) ?_))
local macro_rules | `(tactic| walk_at "subscriptTail Name Slice ref ref") => `(tactic| k_dflt (refine kms_slice_lit (by assumption) (by assumption) (News.isList (by assumption) (by k_mem)) (by kmk_part) (by kmk_part) pick_init ?_ (by with_unfolding_all rfl) (by kmk_pure) (by assumption); intro D' h' F' N' l1; (try k_lt l1); (try k_sweep)))
local macro_rules | `(tactic| walk_at "subscriptTail") => `(tactic| k_dflt ((with_reducible show wpAny _ _ (subscriptTail _ _ (Value.ref _) (Value.int _ _)) _ _ _); refine item_last (News.isList (by assumption) (by k_mem)) ?_))
local macro_rules | `(tactic| walk_at "pyIter ref") => `(tactic| refine stop ?_)
local macro_rules | `(tactic| walk_at "call ref") => `(tactic| refine stop ?_)

set_option maxHeartbeats 700000 in
theorem held_code {w : World} {mean : ExcName → Option Value} {mg mb : Str → Option Value} {s : Shared} {dp un : Nat} {fr : Option (List Env)} {gd : Option (List Code)} {R : Result → Shared → Prop}
    {l : Addr} {rvs : List Value} {row : List Int} {wished : Bool}
    (X : (hd.heap_39 w.params).In s.heap) (T : TP mean mg mb s.heap) (hdp : dp < 680) (hun : un + 200 < cLine) (hl : s.heap.IsList l rvs.toArray) (hi : IntsAre rvs row) (hlen : row.length ≤ 10000)
    (hpos : ∀ n ∈ row, 0 ≤ n) (hfig : ∀ n ∈ row, (figs n).length ≤ 10000)
    (h : BackInts s R (held wished row)) :
    codeAny (model PySem.Challenge.rw_ta0015_01.row.prog w) (AR none dp un fr gd) (.call (.ref 155) ⟨[.ref l, .bool wished], []⟩) R s := by
  revert X
  k_fill
  intro X
  k_with_none
  refine enter (binds := [(Str.ofString "row", .ref l), (Str.ofString "wished", .bool wished)]) X T (by k_is) (by k_is) (roomA (by omega)) (.of_eq rfl) (locs rfl) ?_
  intro L h₁ F N
  (try dsimp only)
  (try k_fold)
  k_steps
  refine goOn ?_
  refine' loopList0 [Str.ofString "figures"] (heldP0 wished) rfl ?hl ?hi ?kF ?kN ?kk ?kp ?_ ?_
  (case hl => exact hl)
  (case hi => assumption)
  (case kF => assumption)
  (case kN => assumption)
  (case kk => exact ps1 (Str.ofString "special") rfl)
  (case kp => exact ⟨rfl, rfl, rfl, by simp⟩)
  · intro c pre post n t u h tk own hpre hoff hP F N
    obtain ⟨vs, ns, k, ps⟩ := c
    obtain ⟨hvs, hns, hk, hps⟩ := hP
    dsimp only at hvs hns hk hps
    subst hvs; subst hns; subst hk; subst hps
    dsimp only [led0, staPs, List.cons_append, List.nil_append, kstB] at *
    have hmem : n ∈ row := by rw [hpre]; simp
    have hn0 := hpos n hmem
    have hnf := hfig n hmem
    k_steps
    refine goOn ?_
    rename Fr _ _ _ _ => F7
    rename News _ _ _ _ => N7
    refine callInts F7 N7 (fun R' hb' => figures_code (Frag.In.keeps X F7.keep) (Top.keeps T F7.keep) (by dsimp only [Around.deeper, AR]; omega) hn0 hnf hb') ?_
    intro h' tk' a' n' vs' F' N' hne' hi'
    rw [figs_last hn0] at hi'
    obtain ⟨vd, tl, rfl, hd'⟩ := ints_last hi'
    have hsz : (vd ++ [Value.int (n % 64) tl]).toArray.size ≤ sizeLine := by
      have h1 := hi'.length
      rw [← figs_last hn0] at h1
      rw [sizeLine_eq, List.size_toArray]; omega
    clear hi'
    generalize hdl : (figs n).dropLast = dl at *
    k_steps
    all_goals
      refine goOn ?_
      rename Fr _ _ _ _ => F6
      rename News _ _ _ _ => N6
      refine compInts rfl F6 N6 (N6.isList (.head _)) hd' (by have h9 := hsz; simp only [List.size_toArray, List.length_append, List.length_singleton] at h9; omega) (marks.contains ·) ?_ ?_
      · intro s₂ hk2
        have F6' := F6.keeps hk2
        have N6' := N6.grown hk2
        clear F6 N6
        refine ⟨?_, ?_⟩
        · intro C i' v s₃ m₃ E' hv hn hm hk _
          obtain ⟨num, tn, rfl, hnum⟩ := ints_have hd' (by simpa using hv)
          clear F6' N6'
          refine wpAny_tests_one ?_
          k_steps
          refine goOn ?_
          refine wpAny_newList ?_
          have hl9 : (s₃.heap.push { cls := .type "list", data := .seq #[Value.int 27 s₃.toks, Value.int 28 (s₃.toks + 1), Value.int 29 (s₃.toks + 1 + 1)] }).IsList s₃.heap.objs.size #[Value.int 27 s₃.toks, Value.int 28 (s₃.toks + 1), Value.int 29 (s₃.toks + 1 + 1)] := ⟨_, Heap.get?_push_size _ rfl, rfl, _, rfl⟩
          have hi9 : IntsAre [Value.int 27 s₃.toks, Value.int 28 (s₃.toks + 1), Value.int 29 (s₃.toks + 1 + 1)] [27, 28, 29] := .cons _ _ (.cons _ _ (.cons _ _ .nil))
          k_steps
          · show _ = marks.contains num
            simp [marks, Bool.beq_eq_decide_eq, eq_comm]
          · exact ⟨_, _, rfl, fun b o e => Heap.get?_push_of_some _ e⟩
        · intro C i' v s₃ m₃ E' hv _ hn hm hk _
          k_steps
          exact ⟨s₃.heap, s₃.toks, rfl, fun _ _ e => e⟩
      · intro D h3 tk3 k3 ys F9 N9 hID
        clear F6 N6
        k_steps
        all_goals
          rename (List.any _ _) = _ => hA
          rename decide _ = _ => hB
          have hsp := spec_go (wished := wished) (pre := pre) (spec_eq hdl hA hB)
          refine end0 (by assumption) (by assumption) (ps1 (Str.ofString "special") rfl) (fun p hp => by repeat (first | exact hp | refine List.mem_cons_of_mem _ ?_)) ?_ ?_
          · intro z h1 h2 h3
            simp only [List.forall_mem_cons] at h2
            have h4 : z ≠ Str.ofString "figures" := fun q => by subst q; exact absurd h3 (by decide)
            simp [h1, h2.1, h4, h3]
          · exact ⟨rfl, rfl, rfl, by rw [hsp]; simp⟩
  · intro c u h tk hP F N
    obtain ⟨vs, ns, k, ps⟩ := c
    obtain ⟨hvs, hns, hk, hps⟩ := hP
    dsimp only at hvs hns hk hps
    subst hvs; subst hns; subst hk; subst hps
    dsimp only [led0, staPs, List.cons_append, List.nil_append, kstB] at *
    k_steps
    · refine goOn ?_
      refine' loopList1 [Str.ofString "figures", Str.ofString "made", Str.ofString "figure"] heldP1 [_, _] [3133, 34] 0 rfl ?hl ?hi ?kF ?kN ?kk ?kp ?_ ?_
      (case hl => exact hl)
      (case hi => assumption)
      (case kF => assumption)
      (case kN => assumption)
      (case kk => exact ps0)
      (case kp => exact ⟨.cons _ _ (.cons _ _ .nil), rfl, rfl⟩)
      · intro c pre post n t u h tk own hpre hoff hP F N
        obtain ⟨vs, ns, k, ps⟩ := c
        obtain ⟨hI, hps, hns⟩ := hP
        dsimp only at hI hps hns
        subst hps
        dsimp only [led1, staPs, List.cons_append, List.nil_append, kstB] at *
        have hmem : n ∈ row := by rw [hpre]; simp
        have hn0 := hpos n hmem
        have hnf := hfig n hmem
        have hvl : vs.length ≤ 10002 := by
          have h1 := hI.length
          have h2 := congrArg List.length hpre
          rw [hns] at h1
          simp only [List.length_append, List.length_map, List.length_cons, List.length_nil] at h1 h2
          omega
        k_steps
        refine goOn ?_
        rename Fr _ _ _ _ => F7
        rename News _ _ _ _ => N7
        refine callInts F7 N7 (fun R' hb' => figures_code (Frag.In.keeps X F7.keep) (Top.keeps T F7.keep) (by dsimp only [Around.deeper, AR]; omega) hn0 hnf hb') ?_
        intro h' tk' a' n' vs' F' N' hne' hi'
        rw [figs_last hn0] at hi'
        obtain ⟨vd, tl, rfl, hd'⟩ := ints_last hi'
        have hsz : (vd ++ [Value.int (n % 64) tl]).toArray.size ≤ sizeLine := by
          have h1 := hi'.length
          rw [← figs_last hn0] at h1
          rw [sizeLine_eq, List.size_toArray]; omega
        clear hi'
        generalize hdl : (figs n).dropLast = dl at *
        k_steps
        refine goOn ?_
        rename Fr _ _ _ _ => F8
        rename News _ _ _ _ => N8
        refine' loopMade (v₀ := ⟨0, ?tk0⟩) (Str.ofString "made") ?nw madeP rfl ?hl ?hi ?kF ?kN ?hk rfl ?_ ?_
        (case kN => exact N8)
        (case hl => exact .head _)
        (case hi => exact hd')
        (case kF => exact F8)
        (case hk => rfl)
        · intro c pre2 post2 f tf h2 tk2 own2 hpre2 hoff2 hP2 F N
          clear F8 N8
          obtain ⟨m, tm⟩ := c
          dsimp only [madeP] at hP2 F
          dsimp only [List.cons_append] at N
          k_steps
          · rename f = 28 => hf
            refine' madeEnd ?F ?N ?hn ?hv ?hr ?hp
            (case F => assumption)
            (case N => assumption)
            (case hn => exact fun p hp => hp)
            (case hv => rfl)
            (case hr => intro z h1 h2; simp [h1, h2])
            (case hp => show _ = made _; rw [made_snoc, ← hP2, madeStep, if_pos hf])
          · rename f ≠ 28 => hf
            refine' madeEnd ?F ?N ?hn ?hv ?hr ?hp
            (case F => assumption)
            (case N => assumption)
            (case hn => exact fun p hp => hp)
            (case hv => rfl)
            (case hr => intro z h1 h2; simp [h1, h2])
            (case hp => show _ = made _; rw [made_snoc, ← hP2, madeStep, if_neg hf])
        · intro c u2 h2 tk2 hP2 F N
          clear F8 N8
          obtain ⟨m, tm⟩ := c
          dsimp only [madeP] at hP2 F
          have N5 := News.first2 N
          clear N
          have hap := apart (o2 := listOf (vd ++ [Value.int (n % 64) tl]).toArray n') hne' hoff
          clear hpos hfig hpre hoff hmem hn0 hnf hne'
          k_steps
          · rename n % 64 = 34 => h34
            have e1 : held1 n = 64 * (64 * m + 28) + n % 64 := by rw [held1, hdl, if_pos h34, hP2]
            refine' end1 (ns ++ [held1 n]) ?F ?N ?hv ?hl ?ho ?hr ?hp
            (case F => assumption)
            (case N => assumption)
            (case hv => exact ps0)
            (case hl => exact List.mem_cons_self)
            (case ho => exact fun p hp => List.mem_cons_of_mem _ (List.mem_cons_of_mem _ hp))
            (case hr =>
              intro z h1 h2 h3
              obtain ⟨h4, h5, h6⟩ := three_off h3
              simp [h1, h4, h5, h6])
            (case hp => exact ⟨e1 ▸ ints_snoc hI, rfl, by rw [hns]; simp⟩)
          · rename n % 64 ≠ 34 => h34
            have e1 : held1 n = 64 * m + n % 64 := by rw [held1, hdl, if_neg h34, hP2]
            refine' end1 (ns ++ [held1 n]) ?F ?N ?hv ?hl ?ho ?hr ?hp
            (case F => assumption)
            (case N => assumption)
            (case hv => exact ps0)
            (case hl => exact List.mem_cons_self)
            (case ho => exact fun p hp => List.mem_cons_of_mem _ (List.mem_cons_of_mem _ hp))
            (case hr =>
              intro z h1 h2 h3
              obtain ⟨h4, h5, h6⟩ := three_off h3
              simp [h1, h4, h5, h6])
            (case hp => exact ⟨e1 ▸ ints_snoc hI, rfl, by rw [hns]; simp⟩)
      · intro c u h tk hP F N
        obtain ⟨vs, ns, k, ps⟩ := c
        obtain ⟨hI, hps, hns⟩ := hP
        dsimp only at hI hps hns
        subst hps
        dsimp only [led1, staPs, List.cons_append, List.nil_append, kstB] at *
        k_steps
        have hnl : ns.length ≤ 10002 := by rw [hns]; simpa using hlen
        have hvl := hI.length
        refine kmk_add_ints (by assumption) (by assumption) (News.isList (by assumption) (.tail _ (.head _))) (News.isList (by assumption) (.head _)) hI (IntsAre.cons _ _ IntsAre.nil) ?_ ?_
        · intro D' us' h' F' N' l1' hI'
          rename BackInts s R _ => hb
          rename (wished || row.any spec1) = true => hs9
          have e : held wished row = ns ++ [34] := by unfold held; rw [hs9, hns]; rfl
          exact hb _ _ _ _ _ F'.keep (N' _ (.head _)).2.2 (N' _ (.head _)).1 (e ▸ hI')
        · rw [sizeLine_eq]; simp only [List.length_singleton]; omega
    · rename BackInts s R _ => hb
      rename Fr _ _ _ _ => F9
      rename News _ _ _ _ => N9
      rename IntsAre _ ([3133] ++ row) => hI9
      rename (wished || row.any spec1) = false => hs9
      have e : held wished row = [3133] ++ row := by unfold held; rw [hs9]; rfl
      exact hb _ _ _ _ _ F9.keep (N9 _ (.head _)).2.2 (N9 _ (.head _)).1 (e ▸ hI9)
end Mine
end

section
open PySem PySem.W PyProof.Rows PySem.Spec
set_option Elab.async false
set_option maxRecDepth 100000
namespace Mine
open PySem.Calls

def rep (x : Str) (c : Nat) (z : Str) : Str := Txt.replace x ⟨#[c]⟩ z
def put (c : Nat) (z : List Nat) (k : Nat) : List Nat := if k = c then z else [k]
theorem flat_free (c : Nat) (z : List Nat) : ∀ l : List Nat, c ∉ l → l.flatMap (put c z) = l
  | [], _ => rfl
  | k :: r, h => by
    have h1 : k ≠ c := fun e => h (e ▸ List.mem_cons_self ..)
    have h2 : c ∉ r := fun m => h (List.mem_cons_of_mem _ m)
    rw [List.flatMap_cons, flat_free c z r h2, put, if_neg h1]; rfl
theorem flat_join (c : Nat) (z : Str) : ∀ parts : List Str, (∀ p ∈ parts, c ∉ p.cps.toList) → (Str.join ⟨#[c]⟩ parts).cps.toList.flatMap (put c z.cps.toList) = (Str.join z parts).cps.toList
  | [], _ => rfl
  | [p], h => flat_free c _ _ (h p (List.mem_singleton.mpr rfl))
  | p :: q :: r, h => by
    have ih := flat_join c z (q :: r) fun a ha => h a (List.mem_cons_of_mem _ ha)
    show (p ++ ⟨#[c]⟩ ++ Str.join ⟨#[c]⟩ (q :: r)).cps.toList.flatMap _ = (p ++ z ++ Str.join z (q :: r)).cps.toList
    simp only [Str.cps_append, Array.toList_append, List.flatMap_append]
    rw [ih, flat_free c _ _ (h p (List.mem_cons_self ..))]
    simp [put]
theorem rep_flat (x : Str) (c : Nat) (z : Str) : (rep x c z).cps.toList = x.cps.toList.flatMap (put c z.cps.toList) := by
  unfold rep
  rw [StrLaws.replace_one, ← flat_join c z _ (StrLaws.split_free x c), StrLaws.join_split]
theorem str_ext {x y : Str} (h : x.cps.toList = y.cps.toList) : x = y := by
  cases x; cases y; congr 1; exact Array.ext' h
theorem rep_none {x z : Str} {c : Nat} (h : (Builtin.Str.occurrences x ⟨#[c]⟩ 0 x.length 1).isEmpty = true) : rep x c z = x := by
  refine str_ext ?_
  rw [rep_flat]
  refine flat_free _ _ _ fun hm => ?_
  have := StrLaws.found_one x c
  rw [h, decide_eq_true hm] at this
  cases this
theorem flat_len (c : Nat) (z : List Nat) : ∀ l : List Nat, (l.flatMap (put c z)).length ≤ l.length * (z.length + 1)
  | [] => by simp
  | k :: r => by
    have ih := flat_len c z r
    rw [List.flatMap_cons, List.length_append, List.length_cons, Nat.succ_mul]
    have : (put c z k).length ≤ z.length + 1 := by unfold put; split <;> simp
    omega

def tab (T : List (Nat × List Nat)) (k : Nat) : List Nat := (T.lookup k).getD [k]
theorem tab_nil : ∀ l : List Nat, l.flatMap (tab []) = l
  | [] => rfl
  | k :: r => by rw [List.flatMap_cons, tab_nil r]; rfl
theorem tab_one : ∀ (T : List (Nat × List Nat)) (c : Nat) (z : List Nat) (k : Nat), (T.all fun p => p.1 != c && !p.2.contains c) = true → (tab T k).flatMap (put c z) = tab (T ++ [(c, z)]) k
  | [], c, z, k, _ => by
    by_cases h : k = c
    · subst h; simp [tab, put, List.lookup]
    · have h' : (k == c) = false := by simp [h]
      simp [tab, put, List.lookup, h, h']
  | (d, v) :: T, c, z, k, h => by
    simp only [List.all_cons, Bool.and_eq_true] at h
    by_cases e : k = d
    · subst e
      have hc : c ∉ v := by simpa using h.1.2
      have e1 : tab ((k, v) :: T) k = v := by simp [tab, List.lookup]
      have e2 : tab ((k, v) :: T ++ [(c, z)]) k = v := by simp [tab, List.lookup]
      rw [e1, e2]
      exact flat_free c z v hc
    · have e' : (k == d) = false := by simp [e]
      have e1 : tab ((d, v) :: T) k = tab T k := by simp [tab, List.lookup, e']
      have e2 : tab ((d, v) :: T ++ [(c, z)]) k = tab (T ++ [(c, z)]) k := by simp [tab, List.lookup, e']
      rw [e1, e2]
      exact tab_one T c z k h.2
theorem tab_step (T : List (Nat × List Nat)) (c : Nat) {z : List Nat} {l : List Nat} (h : (T.all fun p => p.1 != c && !p.2.contains c) = true) : (l.flatMap (tab T)).flatMap (put c z) = l.flatMap (tab (T ++ [(c, z)])) := by
  rw [List.flatMap_assoc]
  congr 1
  funext k
  exact tab_one T c z k h
theorem tab_le {T : List (Nat × List Nat)} (h : (T.all fun p => decide (p.2.length ≤ 6)) = true) (k : Nat) : (tab T k).length ≤ 6 := by
  induction T with
  | nil => simp [tab]
  | cons p T ih =>
    simp only [List.all_cons, Bool.and_eq_true, decide_eq_true_eq] at h
    by_cases e : (k == p.1) = true
    · simp [tab, List.lookup, e, h.1]
    · have e' : (k == p.1) = false := by simpa using e
      have e1 : tab (p :: T) k = tab T k := by simp [tab, List.lookup, e']
      rw [e1]; exact ih h.2
theorem flat_le {f : Nat → List Nat} (h : ∀ k, (f k).length ≤ 6) : ∀ l : List Nat, (l.flatMap f).length ≤ 6 * l.length
  | [] => Nat.le_refl _
  | k :: r => by
    rw [List.flatMap_cons, List.length_append, List.length_cons]
    have := flat_le h r
    have := h k
    omega
theorem tab_len {x y : Str} {T : List (Nat × List Nat)} (hy : y.cps.toList = x.cps.toList.flatMap (tab T)) (h : (T.all fun p => decide (p.2.length ≤ 6)) = true) (hx : x.length ≤ 10000) : y.length ≤ 60000 := by
  have h1 := flat_le (tab_le h) x.cps.toList
  rw [← hy] at h1
  have e1 : y.cps.toList.length = y.length := Array.length_toList
  have e2 : x.cps.toList.length = x.length := Array.length_toList
  omega
theorem one_name {h₀ h : Heap} {L : Addr} {x : Str} {t : Tok} (F : Fr h₀ L h fun y => List.lookup y [(Str.ofString "text", Value.str x t)].reverse) : Fr h₀ L h (fun y => if y = Str.ofString "text" then some (.str x t) else none) := by
  have e : (fun y => List.lookup y [(Str.ofString "text", Value.str x t)].reverse) = (fun y => if y = Str.ofString "text" then some (Value.str x t) else none) := by
    funext y
    by_cases h : y = Str.ofString "text"
    · subst h; simp [List.lookup]
    · have h' : (y == Str.ofString "text") = false := by simp [h]
      simp [List.lookup, h, h']
  exact e ▸ F
theorem stored_rep {x z y' : Str} {c : Nat} {t t9 : Tok} (e : y' = rep x c z) : (fun y => if y = Str.ofString "text" then some (Value.str y' t9) else if y = Str.ofString "text" then some (Value.str x t) else none) = (fun y => if y = Str.ofString "text" then some (Value.str (rep x c z) t9) else none) := by
  subst e
  funext y
  by_cases h : y = Str.ofString "text" <;> simp [h]

def CutT (s : Shared) (h₀ : Heap) (L : Addr) (m : Str → Option Value) (x : Str) (fl : Flow) (s' : Shared) : Prop :=
  fl = .next ∧ ∃ (h' : Heap) (tk t : Nat), s' = { s with heap := h', toks := tk } ∧ 0 < tk ∧ Fr h₀ L h' (fun y => if y = Str.ofString "text" then some (.str x t) else m y)
section
variable {M : Model} {A : Around} {E : Value → Shared → Prop} {s : Shared} {h₀ : Heap} {L : Addr} {m m' : Str → Option Value}
theorem cutT {t : Sem Flow} {Q : Flow → Shared → Prop} (x : Str) (_F : Fr h₀ L s.heap m')
    (h1 : wpAny M A t (CutT s h₀ L m x) (fun _ _ => False) s)
    (h2 : ∀ (h' : Heap) (tk t : Nat), 0 < tk → Fr h₀ L h' (fun y => if y = Str.ofString "text" then some (.str x t) else m y) → News h₀ L h' [] → Q .next { s with heap := h', toks := tk }) : wpAny M A t Q E s :=
  wpAny_mono h1 (fun _ _ ⟨e, h', tk, t, e', ht, F⟩ => by subst e; subst e'; exact h2 h' tk t ht F News.nil) fun _ _ x => x.elim
theorem cutTEnd {x : Str} {h' : Heap} {tk t : Nat} (F : Fr h₀ L h' m') (ht : 0 < tk) (hm : m' = fun y => if y = Str.ofString "text" then some (.str x t) else m y) : CutT s h₀ L m x .next { s with heap := h', toks := tk } := ⟨rfl, h', tk, t, rfl, ht, hm ▸ F⟩
end
local macro_rules | `(tactic| walk_at "exec Try") => `(tactic| refine stop ?_)
local macro_rules | `(tactic| walk_at "exec If Compare cons nil") => `(tactic| (goal_lacks CutT; refine stop ?_))
local macro_rules | `(tactic| walk_at "exec If") => `(tactic| (goal_lacks CutT; refine stop ?_))

local macro_rules | `(tactic| walk_at "ite") => `(tactic| (goal_has CutT; refine stop ?_))
local macro_rules | `(tactic| walk_at "storeName") => `(tactic| (goal_has CutT; refine stop ?_))
local macro_rules | `(tactic| walk_at "call builtin:str.replace") => `(tactic| (refine stop ?_))
set_option maxHeartbeats 1000000 in
theorem esc89_code {w : World} {mean : ExcName → Option Value} {mg mb : Str → Option Value} {s : Shared} {dp un : Nat} {fr : Option (List Env)} {gd : Option (List Code)} {R : Result → Shared → Prop}
    {x : Str} {t : Tok} (X : (hd.heap_39 w.params).In s.heap) (T : TP mean mg mb s.heap) (hdp : dp < 680) (hlen : x.length ≤ 10000)
    (h : ∀ y : Str, y.cps.toList = x.cps.toList.flatMap (tab [(38, [38, 97, 109, 112, 59]), (60, [38, 108, 116, 59]), (62, [38, 103, 116, 59])]) → BackStr s R y) :
    codeAny (model PySem.Challenge.rw_ta0015_01.row.prog w) (AR none dp un fr gd) (.call (.ref 89) ⟨[.str x t], []⟩) R s := by
  revert X
  k_fill
  intro X
  k_with_none
  refine enter (binds := [(Str.ofString "text", .str x t)]) X T (by k_is) (by k_is) (roomA (by omega)) (.of_eq rfl) (locs rfl) ?_
  intro L h₁ F N
  (try dsimp only)
  have ht0 : 0 < s.toks + [(Str.ofString "text", Value.str x t)].length := Nat.succ_pos _
  generalize s.toks + [(Str.ofString "text", Value.str x t)].length = tk0 at *
  have F0 : Fr s.heap L h₁ (fun y => if y = Str.ofString "text" then some (.str x t) else none) := one_name F
  have N0 : News s.heap L h₁ [] := N
  clear F N
  have hx0 : x.cps.toList = x.cps.toList.flatMap (tab []) := (tab_nil _).symm
  generalize hxe : x = x0 at F0 hx0
  have hx0 : x0.cps.toList = x.cps.toList.flatMap (tab []) := by rw [hxe]; exact hx0
  have hl0 : x0.length ≤ 60000 := by rw [← hxe]; omega
  clear hxe
  k_steps
  refine goOn ?_
  refine wpAny_Try_except ?_
  k_steps
  refine goOn ?_
  refine cutT (m := fun _ => none) (rep x0 38 (Str.ofString "&amp;")) F0 ?_ ?_
  · k_steps
    refine goOn ?_
    have htk1 : 0 < tk0 + 1 := Nat.succ_pos _
    generalize tk0 + 1 = tk1 at *
    by_cases hc : (Builtin.Str.occurrences x0 (Str.ofString "&") 0 x0.length 1).isEmpty = true
    · rw [if_neg (by simp [hc])]
      k_steps
      exact cutTEnd (t := t) F0 htk1 (by rw [rep_none (c := 38) (x := x0) hc])
    · rw [if_pos (by simpa using hc)]
      k_steps
      refine goOn ?_
      refine SC.replaceW ?_ ?_ ?_ ?_ ?_ ?_ ?_
      · exact Nat.pos_iff_ne_zero.mp htk1
      · exact Nat.succ_ne_zero _
      · exact Nat.ne_of_lt (Nat.lt_succ_self _)
      · decide
      · omega
      · decide
      intro t9 k9
      k_steps
      refine goOn ?_
      refine stN (by assumption) (by assumption) ?_
      intro h9 F9 N9
      have htk9 : 0 < k9 + 1 := Nat.succ_pos _
      k_steps
      exact cutTEnd F9 htk9 (stored_rep rfl)
  intro h1 tk1 t1 ht1 F1 N1
  have hx1 : (rep x0 38 (Str.ofString "&amp;")).cps.toList = x.cps.toList.flatMap (tab [(38, [38, 97, 109, 112, 59])]) := by
    rw [rep_flat, hx0, tab_step [] 38 (by decide)]; rfl
  generalize rep x0 38 (Str.ofString "&amp;") = x1 at *
  have hl1 : x1.length ≤ 60000 := tab_len hx1 (by decide) hlen
  clear F0 N0
  k_steps
  refine goOn ?_
  refine cutT (m := fun _ => none) (rep x1 60 (Str.ofString "&lt;")) F1 ?_ ?_
  · k_steps
    refine goOn ?_
    have htk1 : 0 < tk1 + 1 := Nat.succ_pos _
    generalize tk1 + 1 = tk1 at *
    by_cases hc : (Builtin.Str.occurrences x1 (Str.ofString "<") 0 x1.length 1).isEmpty = true
    · rw [if_neg (by simp [hc])]
      k_steps
      exact cutTEnd (t := t1) F1 htk1 (by rw [rep_none (c := 60) (x := x1) hc])
    · rw [if_pos (by simpa using hc)]
      k_steps
      refine goOn ?_
      refine SC.replaceW ?_ ?_ ?_ ?_ ?_ ?_ ?_
      · exact Nat.pos_iff_ne_zero.mp htk1
      · exact Nat.succ_ne_zero _
      · exact Nat.ne_of_lt (Nat.lt_succ_self _)
      · decide
      · omega
      · decide
      intro t9 k9
      k_steps
      refine goOn ?_
      refine stN (by assumption) (by assumption) ?_
      intro h9 F9 N9
      have htk9 : 0 < k9 + 1 := Nat.succ_pos _
      k_steps
      exact cutTEnd F9 htk9 (stored_rep rfl)
  intro h2 tk2 t2 ht2 F2 N2
  have hx2 : (rep x1 60 (Str.ofString "&lt;")).cps.toList = x.cps.toList.flatMap (tab [(38, [38, 97, 109, 112, 59]), (60, [38, 108, 116, 59])]) := by
    rw [rep_flat, hx1, tab_step [(38, [38, 97, 109, 112, 59])] 60 (by decide)]; rfl
  generalize rep x1 60 (Str.ofString "&lt;") = x2 at *
  have hl2 : x2.length ≤ 60000 := tab_len hx2 (by decide) hlen
  clear F1 N1
  k_steps
  refine goOn ?_
  refine cutT (m := fun _ => none) (rep x2 62 (Str.ofString "&gt;")) F2 ?_ ?_
  · k_steps
    refine goOn ?_
    have htk1 : 0 < tk2 + 1 := Nat.succ_pos _
    generalize tk2 + 1 = tk1 at *
    by_cases hc : (Builtin.Str.occurrences x2 (Str.ofString ">") 0 x2.length 1).isEmpty = true
    · rw [if_neg (by simp [hc])]
      k_steps
      exact cutTEnd (t := t2) F2 htk1 (by rw [rep_none (c := 62) (x := x2) hc])
    · rw [if_pos (by simpa using hc)]
      k_steps
      refine goOn ?_
      refine SC.replaceW ?_ ?_ ?_ ?_ ?_ ?_ ?_
      · exact Nat.pos_iff_ne_zero.mp htk1
      · exact Nat.succ_ne_zero _
      · exact Nat.ne_of_lt (Nat.lt_succ_self _)
      · decide
      · omega
      · decide
      intro t9 k9
      k_steps
      refine goOn ?_
      refine stN (by assumption) (by assumption) ?_
      intro h9 F9 N9
      have htk9 : 0 < k9 + 1 := Nat.succ_pos _
      k_steps
      exact cutTEnd F9 htk9 (stored_rep rfl)
  intro h3 tk3 t3 ht3 F3 N3
  have hx3 : (rep x2 62 (Str.ofString "&gt;")).cps.toList = x.cps.toList.flatMap (tab [(38, [38, 97, 109, 112, 59]), (60, [38, 108, 116, 59]), (62, [38, 103, 116, 59])]) := by
    rw [rep_flat, hx2, tab_step [(38, [38, 97, 109, 112, 59]), (60, [38, 108, 116, 59])] 62 (by decide)]; rfl
  generalize rep x2 62 (Str.ofString "&gt;") = x3 at *
  have hl3 : x3.length ≤ 60000 := tab_len hx3 (by decide) hlen
  clear F2 N2
  k_steps
  exact h x3 hx3 h3 _ t3 F3.keep
set_option maxHeartbeats 1000000 in
theorem esc96_code {w : World} {mean : ExcName → Option Value} {mg mb : Str → Option Value} {s : Shared} {dp un : Nat} {fr : Option (List Env)} {gd : Option (List Code)} {R : Result → Shared → Prop}
    {x : Str} {t : Tok} (X : (hd.heap_39 w.params).In s.heap) (T : TP mean mg mb s.heap) (hdp : dp < 680) (hlen : x.length ≤ 10000)
    (h : ∀ y : Str, y.cps.toList = x.cps.toList.flatMap (tab [(38, [38, 97, 109, 112, 59]), (60, [38, 108, 116, 59]), (62, [38, 103, 116, 59]), (34, [38, 113, 117, 111, 116, 59]), (13, [38, 35, 49, 51, 59]), (10, [38, 35, 49, 48, 59]), (9, [38, 35, 48, 57, 59])]) → BackStr s R y) :
    codeAny (model PySem.Challenge.rw_ta0015_01.row.prog w) (AR none dp un fr gd) (.call (.ref 96) ⟨[.str x t], []⟩) R s := by
  revert X
  k_fill
  intro X
  k_with_none
  refine enter (binds := [(Str.ofString "text", .str x t)]) X T (by k_is) (by k_is) (roomA (by omega)) (.of_eq rfl) (locs rfl) ?_
  intro L h₁ F N
  (try dsimp only)
  have ht0 : 0 < s.toks + [(Str.ofString "text", Value.str x t)].length := Nat.succ_pos _
  generalize s.toks + [(Str.ofString "text", Value.str x t)].length = tk0 at *
  have F0 : Fr s.heap L h₁ (fun y => if y = Str.ofString "text" then some (.str x t) else none) := one_name F
  have N0 : News s.heap L h₁ [] := N
  clear F N
  have hx0 : x.cps.toList = x.cps.toList.flatMap (tab []) := (tab_nil _).symm
  generalize hxe : x = x0 at F0 hx0
  have hx0 : x0.cps.toList = x.cps.toList.flatMap (tab []) := by rw [hxe]; exact hx0
  have hl0 : x0.length ≤ 60000 := by rw [← hxe]; omega
  clear hxe
  k_steps
  refine goOn ?_
  refine wpAny_Try_except ?_
  k_steps
  refine goOn ?_
  refine cutT (m := fun _ => none) (rep x0 38 (Str.ofString "&amp;")) F0 ?_ ?_
  · k_steps
    refine goOn ?_
    have htk1 : 0 < tk0 + 1 := Nat.succ_pos _
    generalize tk0 + 1 = tk1 at *
    by_cases hc : (Builtin.Str.occurrences x0 (Str.ofString "&") 0 x0.length 1).isEmpty = true
    · rw [if_neg (by simp [hc])]
      k_steps
      exact cutTEnd (t := t) F0 htk1 (by rw [rep_none (c := 38) (x := x0) hc])
    · rw [if_pos (by simpa using hc)]
      k_steps
      refine goOn ?_
      refine SC.replaceW ?_ ?_ ?_ ?_ ?_ ?_ ?_
      · exact Nat.pos_iff_ne_zero.mp htk1
      · exact Nat.succ_ne_zero _
      · exact Nat.ne_of_lt (Nat.lt_succ_self _)
      · decide
      · omega
      · decide
      intro t9 k9
      k_steps
      refine goOn ?_
      refine stN (by assumption) (by assumption) ?_
      intro h9 F9 N9
      have htk9 : 0 < k9 + 1 := Nat.succ_pos _
      k_steps
      exact cutTEnd F9 htk9 (stored_rep rfl)
  intro h1 tk1 t1 ht1 F1 N1
  have hx1 : (rep x0 38 (Str.ofString "&amp;")).cps.toList = x.cps.toList.flatMap (tab [(38, [38, 97, 109, 112, 59])]) := by
    rw [rep_flat, hx0, tab_step [] 38 (by decide)]; rfl
  generalize rep x0 38 (Str.ofString "&amp;") = x1 at *
  have hl1 : x1.length ≤ 60000 := tab_len hx1 (by decide) hlen
  clear F0 N0
  k_steps
  refine goOn ?_
  refine cutT (m := fun _ => none) (rep x1 60 (Str.ofString "&lt;")) F1 ?_ ?_
  · k_steps
    refine goOn ?_
    have htk1 : 0 < tk1 + 1 := Nat.succ_pos _
    generalize tk1 + 1 = tk1 at *
    by_cases hc : (Builtin.Str.occurrences x1 (Str.ofString "<") 0 x1.length 1).isEmpty = true
    · rw [if_neg (by simp [hc])]
      k_steps
      exact cutTEnd (t := t1) F1 htk1 (by rw [rep_none (c := 60) (x := x1) hc])
    · rw [if_pos (by simpa using hc)]
      k_steps
      refine goOn ?_
      refine SC.replaceW ?_ ?_ ?_ ?_ ?_ ?_ ?_
      · exact Nat.pos_iff_ne_zero.mp htk1
      · exact Nat.succ_ne_zero _
      · exact Nat.ne_of_lt (Nat.lt_succ_self _)
      · decide
      · omega
      · decide
      intro t9 k9
      k_steps
      refine goOn ?_
      refine stN (by assumption) (by assumption) ?_
      intro h9 F9 N9
      have htk9 : 0 < k9 + 1 := Nat.succ_pos _
      k_steps
      exact cutTEnd F9 htk9 (stored_rep rfl)
  intro h2 tk2 t2 ht2 F2 N2
  have hx2 : (rep x1 60 (Str.ofString "&lt;")).cps.toList = x.cps.toList.flatMap (tab [(38, [38, 97, 109, 112, 59]), (60, [38, 108, 116, 59])]) := by
    rw [rep_flat, hx1, tab_step [(38, [38, 97, 109, 112, 59])] 60 (by decide)]; rfl
  generalize rep x1 60 (Str.ofString "&lt;") = x2 at *
  have hl2 : x2.length ≤ 60000 := tab_len hx2 (by decide) hlen
  clear F1 N1
  k_steps
  refine goOn ?_
  refine cutT (m := fun _ => none) (rep x2 62 (Str.ofString "&gt;")) F2 ?_ ?_
  · k_steps
    refine goOn ?_
    have htk1 : 0 < tk2 + 1 := Nat.succ_pos _
    generalize tk2 + 1 = tk1 at *
    by_cases hc : (Builtin.Str.occurrences x2 (Str.ofString ">") 0 x2.length 1).isEmpty = true
    · rw [if_neg (by simp [hc])]
      k_steps
      exact cutTEnd (t := t2) F2 htk1 (by rw [rep_none (c := 62) (x := x2) hc])
    · rw [if_pos (by simpa using hc)]
      k_steps
      refine goOn ?_
      refine SC.replaceW ?_ ?_ ?_ ?_ ?_ ?_ ?_
      · exact Nat.pos_iff_ne_zero.mp htk1
      · exact Nat.succ_ne_zero _
      · exact Nat.ne_of_lt (Nat.lt_succ_self _)
      · decide
      · omega
      · decide
      intro t9 k9
      k_steps
      refine goOn ?_
      refine stN (by assumption) (by assumption) ?_
      intro h9 F9 N9
      have htk9 : 0 < k9 + 1 := Nat.succ_pos _
      k_steps
      exact cutTEnd F9 htk9 (stored_rep rfl)
  intro h3 tk3 t3 ht3 F3 N3
  have hx3 : (rep x2 62 (Str.ofString "&gt;")).cps.toList = x.cps.toList.flatMap (tab [(38, [38, 97, 109, 112, 59]), (60, [38, 108, 116, 59]), (62, [38, 103, 116, 59])]) := by
    rw [rep_flat, hx2, tab_step [(38, [38, 97, 109, 112, 59]), (60, [38, 108, 116, 59])] 62 (by decide)]; rfl
  generalize rep x2 62 (Str.ofString "&gt;") = x3 at *
  have hl3 : x3.length ≤ 60000 := tab_len hx3 (by decide) hlen
  clear F2 N2
  k_steps
  refine goOn ?_
  refine cutT (m := fun _ => none) (rep x3 34 (Str.ofString "&quot;")) F3 ?_ ?_
  · k_steps
    refine goOn ?_
    have htk1 : 0 < tk3 + 1 := Nat.succ_pos _
    generalize tk3 + 1 = tk1 at *
    by_cases hc : (Builtin.Str.occurrences x3 (Str.ofString "\"") 0 x3.length 1).isEmpty = true
    · rw [if_neg (by simp [hc])]
      k_steps
      exact cutTEnd (t := t3) F3 htk1 (by rw [rep_none (c := 34) (x := x3) hc])
    · rw [if_pos (by simpa using hc)]
      k_steps
      refine goOn ?_
      refine SC.replaceW ?_ ?_ ?_ ?_ ?_ ?_ ?_
      · exact Nat.pos_iff_ne_zero.mp htk1
      · exact Nat.succ_ne_zero _
      · exact Nat.ne_of_lt (Nat.lt_succ_self _)
      · decide
      · omega
      · decide
      intro t9 k9
      k_steps
      refine goOn ?_
      refine stN (by assumption) (by assumption) ?_
      intro h9 F9 N9
      have htk9 : 0 < k9 + 1 := Nat.succ_pos _
      k_steps
      exact cutTEnd F9 htk9 (stored_rep rfl)
  intro h4 tk4 t4 ht4 F4 N4
  have hx4 : (rep x3 34 (Str.ofString "&quot;")).cps.toList = x.cps.toList.flatMap (tab [(38, [38, 97, 109, 112, 59]), (60, [38, 108, 116, 59]), (62, [38, 103, 116, 59]), (34, [38, 113, 117, 111, 116, 59])]) := by
    rw [rep_flat, hx3, tab_step [(38, [38, 97, 109, 112, 59]), (60, [38, 108, 116, 59]), (62, [38, 103, 116, 59])] 34 (by decide)]; rfl
  generalize rep x3 34 (Str.ofString "&quot;") = x4 at *
  have hl4 : x4.length ≤ 60000 := tab_len hx4 (by decide) hlen
  clear F3 N3
  k_steps
  refine goOn ?_
  refine cutT (m := fun _ => none) (rep x4 13 (Str.ofString "&#13;")) F4 ?_ ?_
  · k_steps
    refine goOn ?_
    have htk1 : 0 < tk4 + 1 := Nat.succ_pos _
    generalize tk4 + 1 = tk1 at *
    by_cases hc : (Builtin.Str.occurrences x4 (Str.ofString "\r") 0 x4.length 1).isEmpty = true
    · rw [if_neg (by simp [hc])]
      k_steps
      exact cutTEnd (t := t4) F4 htk1 (by rw [rep_none (c := 13) (x := x4) hc])
    · rw [if_pos (by simpa using hc)]
      k_steps
      refine goOn ?_
      refine SC.replaceW ?_ ?_ ?_ ?_ ?_ ?_ ?_
      · exact Nat.pos_iff_ne_zero.mp htk1
      · exact Nat.succ_ne_zero _
      · exact Nat.ne_of_lt (Nat.lt_succ_self _)
      · decide
      · omega
      · decide
      intro t9 k9
      k_steps
      refine goOn ?_
      refine stN (by assumption) (by assumption) ?_
      intro h9 F9 N9
      have htk9 : 0 < k9 + 1 := Nat.succ_pos _
      k_steps
      exact cutTEnd F9 htk9 (stored_rep rfl)
  intro h5 tk5 t5 ht5 F5 N5
  have hx5 : (rep x4 13 (Str.ofString "&#13;")).cps.toList = x.cps.toList.flatMap (tab [(38, [38, 97, 109, 112, 59]), (60, [38, 108, 116, 59]), (62, [38, 103, 116, 59]), (34, [38, 113, 117, 111, 116, 59]), (13, [38, 35, 49, 51, 59])]) := by
    rw [rep_flat, hx4, tab_step [(38, [38, 97, 109, 112, 59]), (60, [38, 108, 116, 59]), (62, [38, 103, 116, 59]), (34, [38, 113, 117, 111, 116, 59])] 13 (by decide)]; rfl
  generalize rep x4 13 (Str.ofString "&#13;") = x5 at *
  have hl5 : x5.length ≤ 60000 := tab_len hx5 (by decide) hlen
  clear F4 N4
  k_steps
  refine goOn ?_
  refine cutT (m := fun _ => none) (rep x5 10 (Str.ofString "&#10;")) F5 ?_ ?_
  · k_steps
    refine goOn ?_
    have htk1 : 0 < tk5 + 1 := Nat.succ_pos _
    generalize tk5 + 1 = tk1 at *
    by_cases hc : (Builtin.Str.occurrences x5 (Str.ofString "\n") 0 x5.length 1).isEmpty = true
    · rw [if_neg (by simp [hc])]
      k_steps
      exact cutTEnd (t := t5) F5 htk1 (by rw [rep_none (c := 10) (x := x5) hc])
    · rw [if_pos (by simpa using hc)]
      k_steps
      refine goOn ?_
      refine SC.replaceW ?_ ?_ ?_ ?_ ?_ ?_ ?_
      · exact Nat.pos_iff_ne_zero.mp htk1
      · exact Nat.succ_ne_zero _
      · exact Nat.ne_of_lt (Nat.lt_succ_self _)
      · decide
      · omega
      · decide
      intro t9 k9
      k_steps
      refine goOn ?_
      refine stN (by assumption) (by assumption) ?_
      intro h9 F9 N9
      have htk9 : 0 < k9 + 1 := Nat.succ_pos _
      k_steps
      exact cutTEnd F9 htk9 (stored_rep rfl)
  intro h6 tk6 t6 ht6 F6 N6
  have hx6 : (rep x5 10 (Str.ofString "&#10;")).cps.toList = x.cps.toList.flatMap (tab [(38, [38, 97, 109, 112, 59]), (60, [38, 108, 116, 59]), (62, [38, 103, 116, 59]), (34, [38, 113, 117, 111, 116, 59]), (13, [38, 35, 49, 51, 59]), (10, [38, 35, 49, 48, 59])]) := by
    rw [rep_flat, hx5, tab_step [(38, [38, 97, 109, 112, 59]), (60, [38, 108, 116, 59]), (62, [38, 103, 116, 59]), (34, [38, 113, 117, 111, 116, 59]), (13, [38, 35, 49, 51, 59])] 10 (by decide)]; rfl
  generalize rep x5 10 (Str.ofString "&#10;") = x6 at *
  have hl6 : x6.length ≤ 60000 := tab_len hx6 (by decide) hlen
  clear F5 N5
  k_steps
  refine goOn ?_
  refine cutT (m := fun _ => none) (rep x6 9 (Str.ofString "&#09;")) F6 ?_ ?_
  · k_steps
    refine goOn ?_
    have htk1 : 0 < tk6 + 1 := Nat.succ_pos _
    generalize tk6 + 1 = tk1 at *
    by_cases hc : (Builtin.Str.occurrences x6 (Str.ofString "\t") 0 x6.length 1).isEmpty = true
    · rw [if_neg (by simp [hc])]
      k_steps
      exact cutTEnd (t := t6) F6 htk1 (by rw [rep_none (c := 9) (x := x6) hc])
    · rw [if_pos (by simpa using hc)]
      k_steps
      refine goOn ?_
      refine SC.replaceW ?_ ?_ ?_ ?_ ?_ ?_ ?_
      · exact Nat.pos_iff_ne_zero.mp htk1
      · exact Nat.succ_ne_zero _
      · exact Nat.ne_of_lt (Nat.lt_succ_self _)
      · decide
      · omega
      · decide
      intro t9 k9
      k_steps
      refine goOn ?_
      refine stN (by assumption) (by assumption) ?_
      intro h9 F9 N9
      have htk9 : 0 < k9 + 1 := Nat.succ_pos _
      k_steps
      exact cutTEnd F9 htk9 (stored_rep rfl)
  intro h7 tk7 t7 ht7 F7 N7
  have hx7 : (rep x6 9 (Str.ofString "&#09;")).cps.toList = x.cps.toList.flatMap (tab [(38, [38, 97, 109, 112, 59]), (60, [38, 108, 116, 59]), (62, [38, 103, 116, 59]), (34, [38, 113, 117, 111, 116, 59]), (13, [38, 35, 49, 51, 59]), (10, [38, 35, 49, 48, 59]), (9, [38, 35, 48, 57, 59])]) := by
    rw [rep_flat, hx6, tab_step [(38, [38, 97, 109, 112, 59]), (60, [38, 108, 116, 59]), (62, [38, 103, 116, 59]), (34, [38, 113, 117, 111, 116, 59]), (13, [38, 35, 49, 51, 59]), (10, [38, 35, 49, 48, 59])] 9 (by decide)]; rfl
  generalize rep x6 9 (Str.ofString "&#09;") = x7 at *
  have hl7 : x7.length ≤ 60000 := tab_len hx7 (by decide) hlen
  clear F6 N6
  k_steps
  exact h x7 hx7 h7 _ t7 F7.keep
set_option maxHeartbeats 1000000 in
theorem esc103_code {w : World} {mean : ExcName → Option Value} {mg mb : Str → Option Value} {s : Shared} {dp un : Nat} {fr : Option (List Env)} {gd : Option (List Code)} {R : Result → Shared → Prop}
    {x : Str} {t : Tok} (X : (hd.heap_39 w.params).In s.heap) (T : TP mean mg mb s.heap) (hdp : dp < 680) (hlen : x.length ≤ 10000)
    (h : ∀ y : Str, y.cps.toList = x.cps.toList.flatMap (tab [(38, [38, 97, 109, 112, 59]), (62, [38, 103, 116, 59]), (34, [38, 113, 117, 111, 116, 59])]) → BackStr s R y) :
    codeAny (model PySem.Challenge.rw_ta0015_01.row.prog w) (AR none dp un fr gd) (.call (.ref 103) ⟨[.str x t], []⟩) R s := by
  revert X
  k_fill
  intro X
  k_with_none
  refine enter (binds := [(Str.ofString "text", .str x t)]) X T (by k_is) (by k_is) (roomA (by omega)) (.of_eq rfl) (locs rfl) ?_
  intro L h₁ F N
  (try dsimp only)
  have ht0 : 0 < s.toks + [(Str.ofString "text", Value.str x t)].length := Nat.succ_pos _
  generalize s.toks + [(Str.ofString "text", Value.str x t)].length = tk0 at *
  have F0 : Fr s.heap L h₁ (fun y => if y = Str.ofString "text" then some (.str x t) else none) := one_name F
  have N0 : News s.heap L h₁ [] := N
  clear F N
  have hx0 : x.cps.toList = x.cps.toList.flatMap (tab []) := (tab_nil _).symm
  generalize hxe : x = x0 at F0 hx0
  have hx0 : x0.cps.toList = x.cps.toList.flatMap (tab []) := by rw [hxe]; exact hx0
  have hl0 : x0.length ≤ 60000 := by rw [← hxe]; omega
  clear hxe
  k_steps
  refine goOn ?_
  refine wpAny_Try_except ?_
  k_steps
  refine goOn ?_
  refine cutT (m := fun _ => none) (rep x0 38 (Str.ofString "&amp;")) F0 ?_ ?_
  · k_steps
    refine goOn ?_
    have htk1 : 0 < tk0 + 1 := Nat.succ_pos _
    generalize tk0 + 1 = tk1 at *
    by_cases hc : (Builtin.Str.occurrences x0 (Str.ofString "&") 0 x0.length 1).isEmpty = true
    · rw [if_neg (by simp [hc])]
      k_steps
      exact cutTEnd (t := t) F0 htk1 (by rw [rep_none (c := 38) (x := x0) hc])
    · rw [if_pos (by simpa using hc)]
      k_steps
      refine goOn ?_
      refine SC.replaceW ?_ ?_ ?_ ?_ ?_ ?_ ?_
      · exact Nat.pos_iff_ne_zero.mp htk1
      · exact Nat.succ_ne_zero _
      · exact Nat.ne_of_lt (Nat.lt_succ_self _)
      · decide
      · omega
      · decide
      intro t9 k9
      k_steps
      refine goOn ?_
      refine stN (by assumption) (by assumption) ?_
      intro h9 F9 N9
      have htk9 : 0 < k9 + 1 := Nat.succ_pos _
      k_steps
      exact cutTEnd F9 htk9 (stored_rep rfl)
  intro h1 tk1 t1 ht1 F1 N1
  have hx1 : (rep x0 38 (Str.ofString "&amp;")).cps.toList = x.cps.toList.flatMap (tab [(38, [38, 97, 109, 112, 59])]) := by
    rw [rep_flat, hx0, tab_step [] 38 (by decide)]; rfl
  generalize rep x0 38 (Str.ofString "&amp;") = x1 at *
  have hl1 : x1.length ≤ 60000 := tab_len hx1 (by decide) hlen
  clear F0 N0
  k_steps
  refine goOn ?_
  refine cutT (m := fun _ => none) (rep x1 62 (Str.ofString "&gt;")) F1 ?_ ?_
  · k_steps
    refine goOn ?_
    have htk1 : 0 < tk1 + 1 := Nat.succ_pos _
    generalize tk1 + 1 = tk1 at *
    by_cases hc : (Builtin.Str.occurrences x1 (Str.ofString ">") 0 x1.length 1).isEmpty = true
    · rw [if_neg (by simp [hc])]
      k_steps
      exact cutTEnd (t := t1) F1 htk1 (by rw [rep_none (c := 62) (x := x1) hc])
    · rw [if_pos (by simpa using hc)]
      k_steps
      refine goOn ?_
      refine SC.replaceW ?_ ?_ ?_ ?_ ?_ ?_ ?_
      · exact Nat.pos_iff_ne_zero.mp htk1
      · exact Nat.succ_ne_zero _
      · exact Nat.ne_of_lt (Nat.lt_succ_self _)
      · decide
      · omega
      · decide
      intro t9 k9
      k_steps
      refine goOn ?_
      refine stN (by assumption) (by assumption) ?_
      intro h9 F9 N9
      have htk9 : 0 < k9 + 1 := Nat.succ_pos _
      k_steps
      exact cutTEnd F9 htk9 (stored_rep rfl)
  intro h2 tk2 t2 ht2 F2 N2
  have hx2 : (rep x1 62 (Str.ofString "&gt;")).cps.toList = x.cps.toList.flatMap (tab [(38, [38, 97, 109, 112, 59]), (62, [38, 103, 116, 59])]) := by
    rw [rep_flat, hx1, tab_step [(38, [38, 97, 109, 112, 59])] 62 (by decide)]; rfl
  generalize rep x1 62 (Str.ofString "&gt;") = x2 at *
  have hl2 : x2.length ≤ 60000 := tab_len hx2 (by decide) hlen
  clear F1 N1
  k_steps
  refine goOn ?_
  refine cutT (m := fun _ => none) (rep x2 34 (Str.ofString "&quot;")) F2 ?_ ?_
  · k_steps
    refine goOn ?_
    have htk1 : 0 < tk2 + 1 := Nat.succ_pos _
    generalize tk2 + 1 = tk1 at *
    by_cases hc : (Builtin.Str.occurrences x2 (Str.ofString "\"") 0 x2.length 1).isEmpty = true
    · rw [if_neg (by simp [hc])]
      k_steps
      exact cutTEnd (t := t2) F2 htk1 (by rw [rep_none (c := 34) (x := x2) hc])
    · rw [if_pos (by simpa using hc)]
      k_steps
      refine goOn ?_
      refine SC.replaceW ?_ ?_ ?_ ?_ ?_ ?_ ?_
      · exact Nat.pos_iff_ne_zero.mp htk1
      · exact Nat.succ_ne_zero _
      · exact Nat.ne_of_lt (Nat.lt_succ_self _)
      · decide
      · omega
      · decide
      intro t9 k9
      k_steps
      refine goOn ?_
      refine stN (by assumption) (by assumption) ?_
      intro h9 F9 N9
      have htk9 : 0 < k9 + 1 := Nat.succ_pos _
      k_steps
      exact cutTEnd F9 htk9 (stored_rep rfl)
  intro h3 tk3 t3 ht3 F3 N3
  have hx3 : (rep x2 34 (Str.ofString "&quot;")).cps.toList = x.cps.toList.flatMap (tab [(38, [38, 97, 109, 112, 59]), (62, [38, 103, 116, 59]), (34, [38, 113, 117, 111, 116, 59])]) := by
    rw [rep_flat, hx2, tab_step [(38, [38, 97, 109, 112, 59]), (62, [38, 103, 116, 59])] 34 (by decide)]; rfl
  generalize rep x2 34 (Str.ofString "&quot;") = x3 at *
  have hl3 : x3.length ≤ 60000 := tab_len hx3 (by decide) hlen
  clear F2 N2
  k_steps
  exact h x3 hx3 h3 _ t3 F3.keep
set_option maxHeartbeats 1000000 in
theorem esc110_code {w : World} {mean : ExcName → Option Value} {mg mb : Str → Option Value} {s : Shared} {dp un : Nat} {fr : Option (List Env)} {gd : Option (List Code)} {R : Result → Shared → Prop}
    {x : Str} {t : Tok} (X : (hd.heap_39 w.params).In s.heap) (T : TP mean mg mb s.heap) (hdp : dp < 680) (hlen : x.length ≤ 10000)
    (h : ∀ y : Str, y.cps.toList = x.cps.toList.flatMap (tab [(38, [38, 97, 109, 112, 59]), (60, [38, 108, 116, 59]), (62, [38, 103, 116, 59]), (13, [38, 35, 120, 68, 59])]) → BackStr s R y) :
    codeAny (model PySem.Challenge.rw_ta0015_01.row.prog w) (AR none dp un fr gd) (.call (.ref 110) ⟨[.str x t], []⟩) R s := by
  revert X
  k_fill
  intro X
  k_with_none
  refine enter (binds := [(Str.ofString "text", .str x t)]) X T (by k_is) (by k_is) (roomA (by omega)) (.of_eq rfl) (locs rfl) ?_
  intro L h₁ F N
  (try dsimp only)
  have ht0 : 0 < s.toks + [(Str.ofString "text", Value.str x t)].length := Nat.succ_pos _
  generalize s.toks + [(Str.ofString "text", Value.str x t)].length = tk0 at *
  have F0 : Fr s.heap L h₁ (fun y => if y = Str.ofString "text" then some (.str x t) else none) := one_name F
  have N0 : News s.heap L h₁ [] := N
  clear F N
  have hx0 : x.cps.toList = x.cps.toList.flatMap (tab []) := (tab_nil _).symm
  generalize hxe : x = x0 at F0 hx0
  have hx0 : x0.cps.toList = x.cps.toList.flatMap (tab []) := by rw [hxe]; exact hx0
  have hl0 : x0.length ≤ 60000 := by rw [← hxe]; omega
  clear hxe
  k_steps
  refine goOn ?_
  refine wpAny_Try_except ?_
  k_steps
  refine goOn ?_
  refine cutT (m := fun _ => none) (rep x0 38 (Str.ofString "&amp;")) F0 ?_ ?_
  · k_steps
    refine goOn ?_
    have htk1 : 0 < tk0 + 1 := Nat.succ_pos _
    generalize tk0 + 1 = tk1 at *
    by_cases hc : (Builtin.Str.occurrences x0 (Str.ofString "&") 0 x0.length 1).isEmpty = true
    · rw [if_neg (by simp [hc])]
      k_steps
      exact cutTEnd (t := t) F0 htk1 (by rw [rep_none (c := 38) (x := x0) hc])
    · rw [if_pos (by simpa using hc)]
      k_steps
      refine goOn ?_
      refine SC.replaceW ?_ ?_ ?_ ?_ ?_ ?_ ?_
      · exact Nat.pos_iff_ne_zero.mp htk1
      · exact Nat.succ_ne_zero _
      · exact Nat.ne_of_lt (Nat.lt_succ_self _)
      · decide
      · omega
      · decide
      intro t9 k9
      k_steps
      refine goOn ?_
      refine stN (by assumption) (by assumption) ?_
      intro h9 F9 N9
      have htk9 : 0 < k9 + 1 := Nat.succ_pos _
      k_steps
      exact cutTEnd F9 htk9 (stored_rep rfl)
  intro h1 tk1 t1 ht1 F1 N1
  have hx1 : (rep x0 38 (Str.ofString "&amp;")).cps.toList = x.cps.toList.flatMap (tab [(38, [38, 97, 109, 112, 59])]) := by
    rw [rep_flat, hx0, tab_step [] 38 (by decide)]; rfl
  generalize rep x0 38 (Str.ofString "&amp;") = x1 at *
  have hl1 : x1.length ≤ 60000 := tab_len hx1 (by decide) hlen
  clear F0 N0
  k_steps
  refine goOn ?_
  refine cutT (m := fun _ => none) (rep x1 60 (Str.ofString "&lt;")) F1 ?_ ?_
  · k_steps
    refine goOn ?_
    have htk1 : 0 < tk1 + 1 := Nat.succ_pos _
    generalize tk1 + 1 = tk1 at *
    by_cases hc : (Builtin.Str.occurrences x1 (Str.ofString "<") 0 x1.length 1).isEmpty = true
    · rw [if_neg (by simp [hc])]
      k_steps
      exact cutTEnd (t := t1) F1 htk1 (by rw [rep_none (c := 60) (x := x1) hc])
    · rw [if_pos (by simpa using hc)]
      k_steps
      refine goOn ?_
      refine SC.replaceW ?_ ?_ ?_ ?_ ?_ ?_ ?_
      · exact Nat.pos_iff_ne_zero.mp htk1
      · exact Nat.succ_ne_zero _
      · exact Nat.ne_of_lt (Nat.lt_succ_self _)
      · decide
      · omega
      · decide
      intro t9 k9
      k_steps
      refine goOn ?_
      refine stN (by assumption) (by assumption) ?_
      intro h9 F9 N9
      have htk9 : 0 < k9 + 1 := Nat.succ_pos _
      k_steps
      exact cutTEnd F9 htk9 (stored_rep rfl)
  intro h2 tk2 t2 ht2 F2 N2
  have hx2 : (rep x1 60 (Str.ofString "&lt;")).cps.toList = x.cps.toList.flatMap (tab [(38, [38, 97, 109, 112, 59]), (60, [38, 108, 116, 59])]) := by
    rw [rep_flat, hx1, tab_step [(38, [38, 97, 109, 112, 59])] 60 (by decide)]; rfl
  generalize rep x1 60 (Str.ofString "&lt;") = x2 at *
  have hl2 : x2.length ≤ 60000 := tab_len hx2 (by decide) hlen
  clear F1 N1
  k_steps
  refine goOn ?_
  refine cutT (m := fun _ => none) (rep x2 62 (Str.ofString "&gt;")) F2 ?_ ?_
  · k_steps
    refine goOn ?_
    have htk1 : 0 < tk2 + 1 := Nat.succ_pos _
    generalize tk2 + 1 = tk1 at *
    by_cases hc : (Builtin.Str.occurrences x2 (Str.ofString ">") 0 x2.length 1).isEmpty = true
    · rw [if_neg (by simp [hc])]
      k_steps
      exact cutTEnd (t := t2) F2 htk1 (by rw [rep_none (c := 62) (x := x2) hc])
    · rw [if_pos (by simpa using hc)]
      k_steps
      refine goOn ?_
      refine SC.replaceW ?_ ?_ ?_ ?_ ?_ ?_ ?_
      · exact Nat.pos_iff_ne_zero.mp htk1
      · exact Nat.succ_ne_zero _
      · exact Nat.ne_of_lt (Nat.lt_succ_self _)
      · decide
      · omega
      · decide
      intro t9 k9
      k_steps
      refine goOn ?_
      refine stN (by assumption) (by assumption) ?_
      intro h9 F9 N9
      have htk9 : 0 < k9 + 1 := Nat.succ_pos _
      k_steps
      exact cutTEnd F9 htk9 (stored_rep rfl)
  intro h3 tk3 t3 ht3 F3 N3
  have hx3 : (rep x2 62 (Str.ofString "&gt;")).cps.toList = x.cps.toList.flatMap (tab [(38, [38, 97, 109, 112, 59]), (60, [38, 108, 116, 59]), (62, [38, 103, 116, 59])]) := by
    rw [rep_flat, hx2, tab_step [(38, [38, 97, 109, 112, 59]), (60, [38, 108, 116, 59])] 62 (by decide)]; rfl
  generalize rep x2 62 (Str.ofString "&gt;") = x3 at *
  have hl3 : x3.length ≤ 60000 := tab_len hx3 (by decide) hlen
  clear F2 N2
  k_steps
  refine goOn ?_
  refine cutT (m := fun _ => none) (rep x3 13 (Str.ofString "&#xD;")) F3 ?_ ?_
  · k_steps
    refine goOn ?_
    have htk1 : 0 < tk3 + 1 := Nat.succ_pos _
    generalize tk3 + 1 = tk1 at *
    by_cases hc : (Builtin.Str.occurrences x3 (Str.ofString "\r") 0 x3.length 1).isEmpty = true
    · rw [if_neg (by simp [hc])]
      k_steps
      exact cutTEnd (t := t3) F3 htk1 (by rw [rep_none (c := 13) (x := x3) hc])
    · rw [if_pos (by simpa using hc)]
      k_steps
      refine goOn ?_
      refine SC.replaceW ?_ ?_ ?_ ?_ ?_ ?_ ?_
      · exact Nat.pos_iff_ne_zero.mp htk1
      · exact Nat.succ_ne_zero _
      · exact Nat.ne_of_lt (Nat.lt_succ_self _)
      · decide
      · omega
      · decide
      intro t9 k9
      k_steps
      refine goOn ?_
      refine stN (by assumption) (by assumption) ?_
      intro h9 F9 N9
      have htk9 : 0 < k9 + 1 := Nat.succ_pos _
      k_steps
      exact cutTEnd F9 htk9 (stored_rep rfl)
  intro h4 tk4 t4 ht4 F4 N4
  have hx4 : (rep x3 13 (Str.ofString "&#xD;")).cps.toList = x.cps.toList.flatMap (tab [(38, [38, 97, 109, 112, 59]), (60, [38, 108, 116, 59]), (62, [38, 103, 116, 59]), (13, [38, 35, 120, 68, 59])]) := by
    rw [rep_flat, hx3, tab_step [(38, [38, 97, 109, 112, 59]), (60, [38, 108, 116, 59]), (62, [38, 103, 116, 59])] 13 (by decide)]; rfl
  generalize rep x3 13 (Str.ofString "&#xD;") = x4 at *
  have hl4 : x4.length ≤ 60000 := tab_len hx4 (by decide) hlen
  clear F3 N3
  k_steps
  exact h x4 hx4 h4 _ t4 F4.keep
set_option maxHeartbeats 1000000 in
theorem esc117_code {w : World} {mean : ExcName → Option Value} {mg mb : Str → Option Value} {s : Shared} {dp un : Nat} {fr : Option (List Env)} {gd : Option (List Code)} {R : Result → Shared → Prop}
    {x : Str} {t : Tok} (X : (hd.heap_39 w.params).In s.heap) (T : TP mean mg mb s.heap) (hdp : dp < 680) (hlen : x.length ≤ 10000)
    (h : ∀ y : Str, y.cps.toList = x.cps.toList.flatMap (tab [(38, [38, 97, 109, 112, 59]), (60, [38, 108, 116, 59]), (34, [38, 113, 117, 111, 116, 59]), (9, [38, 35, 120, 57, 59]), (10, [38, 35, 120, 65, 59]), (13, [38, 35, 120, 68, 59])]) → BackStr s R y) :
    codeAny (model PySem.Challenge.rw_ta0015_01.row.prog w) (AR none dp un fr gd) (.call (.ref 117) ⟨[.str x t], []⟩) R s := by
  revert X
  k_fill
  intro X
  k_with_none
  refine enter (binds := [(Str.ofString "text", .str x t)]) X T (by k_is) (by k_is) (roomA (by omega)) (.of_eq rfl) (locs rfl) ?_
  intro L h₁ F N
  (try dsimp only)
  have ht0 : 0 < s.toks + [(Str.ofString "text", Value.str x t)].length := Nat.succ_pos _
  generalize s.toks + [(Str.ofString "text", Value.str x t)].length = tk0 at *
  have F0 : Fr s.heap L h₁ (fun y => if y = Str.ofString "text" then some (.str x t) else none) := one_name F
  have N0 : News s.heap L h₁ [] := N
  clear F N
  have hx0 : x.cps.toList = x.cps.toList.flatMap (tab []) := (tab_nil _).symm
  generalize hxe : x = x0 at F0 hx0
  have hx0 : x0.cps.toList = x.cps.toList.flatMap (tab []) := by rw [hxe]; exact hx0
  have hl0 : x0.length ≤ 60000 := by rw [← hxe]; omega
  clear hxe
  k_steps
  refine goOn ?_
  refine wpAny_Try_except ?_
  k_steps
  refine goOn ?_
  refine cutT (m := fun _ => none) (rep x0 38 (Str.ofString "&amp;")) F0 ?_ ?_
  · k_steps
    refine goOn ?_
    have htk1 : 0 < tk0 + 1 := Nat.succ_pos _
    generalize tk0 + 1 = tk1 at *
    by_cases hc : (Builtin.Str.occurrences x0 (Str.ofString "&") 0 x0.length 1).isEmpty = true
    · rw [if_neg (by simp [hc])]
      k_steps
      exact cutTEnd (t := t) F0 htk1 (by rw [rep_none (c := 38) (x := x0) hc])
    · rw [if_pos (by simpa using hc)]
      k_steps
      refine goOn ?_
      refine SC.replaceW ?_ ?_ ?_ ?_ ?_ ?_ ?_
      · exact Nat.pos_iff_ne_zero.mp htk1
      · exact Nat.succ_ne_zero _
      · exact Nat.ne_of_lt (Nat.lt_succ_self _)
      · decide
      · omega
      · decide
      intro t9 k9
      k_steps
      refine goOn ?_
      refine stN (by assumption) (by assumption) ?_
      intro h9 F9 N9
      have htk9 : 0 < k9 + 1 := Nat.succ_pos _
      k_steps
      exact cutTEnd F9 htk9 (stored_rep rfl)
  intro h1 tk1 t1 ht1 F1 N1
  have hx1 : (rep x0 38 (Str.ofString "&amp;")).cps.toList = x.cps.toList.flatMap (tab [(38, [38, 97, 109, 112, 59])]) := by
    rw [rep_flat, hx0, tab_step [] 38 (by decide)]; rfl
  generalize rep x0 38 (Str.ofString "&amp;") = x1 at *
  have hl1 : x1.length ≤ 60000 := tab_len hx1 (by decide) hlen
  clear F0 N0
  k_steps
  refine goOn ?_
  refine cutT (m := fun _ => none) (rep x1 60 (Str.ofString "&lt;")) F1 ?_ ?_
  · k_steps
    refine goOn ?_
    have htk1 : 0 < tk1 + 1 := Nat.succ_pos _
    generalize tk1 + 1 = tk1 at *
    by_cases hc : (Builtin.Str.occurrences x1 (Str.ofString "<") 0 x1.length 1).isEmpty = true
    · rw [if_neg (by simp [hc])]
      k_steps
      exact cutTEnd (t := t1) F1 htk1 (by rw [rep_none (c := 60) (x := x1) hc])
    · rw [if_pos (by simpa using hc)]
      k_steps
      refine goOn ?_
      refine SC.replaceW ?_ ?_ ?_ ?_ ?_ ?_ ?_
      · exact Nat.pos_iff_ne_zero.mp htk1
      · exact Nat.succ_ne_zero _
      · exact Nat.ne_of_lt (Nat.lt_succ_self _)
      · decide
      · omega
      · decide
      intro t9 k9
      k_steps
      refine goOn ?_
      refine stN (by assumption) (by assumption) ?_
      intro h9 F9 N9
      have htk9 : 0 < k9 + 1 := Nat.succ_pos _
      k_steps
      exact cutTEnd F9 htk9 (stored_rep rfl)
  intro h2 tk2 t2 ht2 F2 N2
  have hx2 : (rep x1 60 (Str.ofString "&lt;")).cps.toList = x.cps.toList.flatMap (tab [(38, [38, 97, 109, 112, 59]), (60, [38, 108, 116, 59])]) := by
    rw [rep_flat, hx1, tab_step [(38, [38, 97, 109, 112, 59])] 60 (by decide)]; rfl
  generalize rep x1 60 (Str.ofString "&lt;") = x2 at *
  have hl2 : x2.length ≤ 60000 := tab_len hx2 (by decide) hlen
  clear F1 N1
  k_steps
  refine goOn ?_
  refine cutT (m := fun _ => none) (rep x2 34 (Str.ofString "&quot;")) F2 ?_ ?_
  · k_steps
    refine goOn ?_
    have htk1 : 0 < tk2 + 1 := Nat.succ_pos _
    generalize tk2 + 1 = tk1 at *
    by_cases hc : (Builtin.Str.occurrences x2 (Str.ofString "\"") 0 x2.length 1).isEmpty = true
    · rw [if_neg (by simp [hc])]
      k_steps
      exact cutTEnd (t := t2) F2 htk1 (by rw [rep_none (c := 34) (x := x2) hc])
    · rw [if_pos (by simpa using hc)]
      k_steps
      refine goOn ?_
      refine SC.replaceW ?_ ?_ ?_ ?_ ?_ ?_ ?_
      · exact Nat.pos_iff_ne_zero.mp htk1
      · exact Nat.succ_ne_zero _
      · exact Nat.ne_of_lt (Nat.lt_succ_self _)
      · decide
      · omega
      · decide
      intro t9 k9
      k_steps
      refine goOn ?_
      refine stN (by assumption) (by assumption) ?_
      intro h9 F9 N9
      have htk9 : 0 < k9 + 1 := Nat.succ_pos _
      k_steps
      exact cutTEnd F9 htk9 (stored_rep rfl)
  intro h3 tk3 t3 ht3 F3 N3
  have hx3 : (rep x2 34 (Str.ofString "&quot;")).cps.toList = x.cps.toList.flatMap (tab [(38, [38, 97, 109, 112, 59]), (60, [38, 108, 116, 59]), (34, [38, 113, 117, 111, 116, 59])]) := by
    rw [rep_flat, hx2, tab_step [(38, [38, 97, 109, 112, 59]), (60, [38, 108, 116, 59])] 34 (by decide)]; rfl
  generalize rep x2 34 (Str.ofString "&quot;") = x3 at *
  have hl3 : x3.length ≤ 60000 := tab_len hx3 (by decide) hlen
  clear F2 N2
  k_steps
  refine goOn ?_
  refine cutT (m := fun _ => none) (rep x3 9 (Str.ofString "&#x9;")) F3 ?_ ?_
  · k_steps
    refine goOn ?_
    have htk1 : 0 < tk3 + 1 := Nat.succ_pos _
    generalize tk3 + 1 = tk1 at *
    by_cases hc : (Builtin.Str.occurrences x3 (Str.ofString "\t") 0 x3.length 1).isEmpty = true
    · rw [if_neg (by simp [hc])]
      k_steps
      exact cutTEnd (t := t3) F3 htk1 (by rw [rep_none (c := 9) (x := x3) hc])
    · rw [if_pos (by simpa using hc)]
      k_steps
      refine goOn ?_
      refine SC.replaceW ?_ ?_ ?_ ?_ ?_ ?_ ?_
      · exact Nat.pos_iff_ne_zero.mp htk1
      · exact Nat.succ_ne_zero _
      · exact Nat.ne_of_lt (Nat.lt_succ_self _)
      · decide
      · omega
      · decide
      intro t9 k9
      k_steps
      refine goOn ?_
      refine stN (by assumption) (by assumption) ?_
      intro h9 F9 N9
      have htk9 : 0 < k9 + 1 := Nat.succ_pos _
      k_steps
      exact cutTEnd F9 htk9 (stored_rep rfl)
  intro h4 tk4 t4 ht4 F4 N4
  have hx4 : (rep x3 9 (Str.ofString "&#x9;")).cps.toList = x.cps.toList.flatMap (tab [(38, [38, 97, 109, 112, 59]), (60, [38, 108, 116, 59]), (34, [38, 113, 117, 111, 116, 59]), (9, [38, 35, 120, 57, 59])]) := by
    rw [rep_flat, hx3, tab_step [(38, [38, 97, 109, 112, 59]), (60, [38, 108, 116, 59]), (34, [38, 113, 117, 111, 116, 59])] 9 (by decide)]; rfl
  generalize rep x3 9 (Str.ofString "&#x9;") = x4 at *
  have hl4 : x4.length ≤ 60000 := tab_len hx4 (by decide) hlen
  clear F3 N3
  k_steps
  refine goOn ?_
  refine cutT (m := fun _ => none) (rep x4 10 (Str.ofString "&#xA;")) F4 ?_ ?_
  · k_steps
    refine goOn ?_
    have htk1 : 0 < tk4 + 1 := Nat.succ_pos _
    generalize tk4 + 1 = tk1 at *
    by_cases hc : (Builtin.Str.occurrences x4 (Str.ofString "\n") 0 x4.length 1).isEmpty = true
    · rw [if_neg (by simp [hc])]
      k_steps
      exact cutTEnd (t := t4) F4 htk1 (by rw [rep_none (c := 10) (x := x4) hc])
    · rw [if_pos (by simpa using hc)]
      k_steps
      refine goOn ?_
      refine SC.replaceW ?_ ?_ ?_ ?_ ?_ ?_ ?_
      · exact Nat.pos_iff_ne_zero.mp htk1
      · exact Nat.succ_ne_zero _
      · exact Nat.ne_of_lt (Nat.lt_succ_self _)
      · decide
      · omega
      · decide
      intro t9 k9
      k_steps
      refine goOn ?_
      refine stN (by assumption) (by assumption) ?_
      intro h9 F9 N9
      have htk9 : 0 < k9 + 1 := Nat.succ_pos _
      k_steps
      exact cutTEnd F9 htk9 (stored_rep rfl)
  intro h5 tk5 t5 ht5 F5 N5
  have hx5 : (rep x4 10 (Str.ofString "&#xA;")).cps.toList = x.cps.toList.flatMap (tab [(38, [38, 97, 109, 112, 59]), (60, [38, 108, 116, 59]), (34, [38, 113, 117, 111, 116, 59]), (9, [38, 35, 120, 57, 59]), (10, [38, 35, 120, 65, 59])]) := by
    rw [rep_flat, hx4, tab_step [(38, [38, 97, 109, 112, 59]), (60, [38, 108, 116, 59]), (34, [38, 113, 117, 111, 116, 59]), (9, [38, 35, 120, 57, 59])] 10 (by decide)]; rfl
  generalize rep x4 10 (Str.ofString "&#xA;") = x5 at *
  have hl5 : x5.length ≤ 60000 := tab_len hx5 (by decide) hlen
  clear F4 N4
  k_steps
  refine goOn ?_
  refine cutT (m := fun _ => none) (rep x5 13 (Str.ofString "&#xD;")) F5 ?_ ?_
  · k_steps
    refine goOn ?_
    have htk1 : 0 < tk5 + 1 := Nat.succ_pos _
    generalize tk5 + 1 = tk1 at *
    by_cases hc : (Builtin.Str.occurrences x5 (Str.ofString "\r") 0 x5.length 1).isEmpty = true
    · rw [if_neg (by simp [hc])]
      k_steps
      exact cutTEnd (t := t5) F5 htk1 (by rw [rep_none (c := 13) (x := x5) hc])
    · rw [if_pos (by simpa using hc)]
      k_steps
      refine goOn ?_
      refine SC.replaceW ?_ ?_ ?_ ?_ ?_ ?_ ?_
      · exact Nat.pos_iff_ne_zero.mp htk1
      · exact Nat.succ_ne_zero _
      · exact Nat.ne_of_lt (Nat.lt_succ_self _)
      · decide
      · omega
      · decide
      intro t9 k9
      k_steps
      refine goOn ?_
      refine stN (by assumption) (by assumption) ?_
      intro h9 F9 N9
      have htk9 : 0 < k9 + 1 := Nat.succ_pos _
      k_steps
      exact cutTEnd F9 htk9 (stored_rep rfl)
  intro h6 tk6 t6 ht6 F6 N6
  have hx6 : (rep x5 13 (Str.ofString "&#xD;")).cps.toList = x.cps.toList.flatMap (tab [(38, [38, 97, 109, 112, 59]), (60, [38, 108, 116, 59]), (34, [38, 113, 117, 111, 116, 59]), (9, [38, 35, 120, 57, 59]), (10, [38, 35, 120, 65, 59]), (13, [38, 35, 120, 68, 59])]) := by
    rw [rep_flat, hx5, tab_step [(38, [38, 97, 109, 112, 59]), (60, [38, 108, 116, 59]), (34, [38, 113, 117, 111, 116, 59]), (9, [38, 35, 120, 57, 59]), (10, [38, 35, 120, 65, 59])] 13 (by decide)]; rfl
  generalize rep x5 13 (Str.ofString "&#xD;") = x6 at *
  have hl6 : x6.length ≤ 60000 := tab_len hx6 (by decide) hlen
  clear F5 N5
  k_steps
  exact h x6 hx6 h6 _ t6 F6.keep
end Mine
end

section
open PySem PySem.W PyProof.Rows PySem.Spec
set_option Elab.async false
namespace Mine
theorem nums_low (c : Int) (hc : c < 64) (r : List Int) : ∀ (i : List Int) (n : Int), nums n (i ++ c :: r) = nums n (i ++ [c]) ++ nums 0 r
  | [], n => by simp [nums, hc]
  | d :: i, n => by
    simp only [List.cons_append, nums]
    split
    · rw [nums_low c hc r i 0]; rfl
    · exact nums_low c hc r i _
theorem codes_map (x : Str) : KStt.codes x = x.cps.toList.map (fun k : Nat => (k : Int)) := by
  unfold KStt.codes; simp
def nat (l : List Nat) : List Int := l.map fun k : Nat => (k : Int)
theorem nums_marked (nm : Int → Option Str) (esc : Nat → List Nat)
    (h1 : ∀ (c : Nat) (z : Str), c < 64 → nm c = some z → esc c = 38 :: z.cps.toList ∧ ∃ i k, z.cps.toList = i ++ [k] ∧ k < 64)
    (h2 : ∀ c : Nat, c < 64 → nm c = none → esc c = [c]) (h3 : ∀ c : Nat, 64 ≤ c → esc c = [c]) :
    ∀ (l : List Nat) (n : Int), nums n (nat (l.flatMap esc)) = marked nm (nums n (nat l))
  | [], n => rfl
  | c :: r, n => by
    have ih := nums_marked nm esc h1 h2 h3 r
    by_cases hc : c < 64
    · have hc' : (c : Int) < 64 := by omega
      have e1 : (64 * n + (c : Int) % 64) % 64 = c := by omega
      have e2 : nums n (nat (c :: r)) = (64 * n + (c : Int) % 64) :: nums 0 (nat r) := by
        show nums n ((c : Int) :: nat r) = _
        rw [nums, if_pos hc']
      cases hz : nm c with
      | none =>
        rw [List.flatMap_cons, h2 c hc hz, e2, marked, e1, hz]
        show nums n ((c : Int) :: nat (r.flatMap esc)) = _
        rw [nums, if_pos hc', ih]
      | some z =>
        obtain ⟨e3, i, k, e4, hk⟩ := h1 c z hc hz
        rw [List.flatMap_cons, e3, e2, marked, e1, hz]
        show nums n ((38 : Int) :: nat (z.cps.toList ++ r.flatMap esc)) = _
        rw [nums, if_pos (by decide)]
        have e5 : nat (z.cps.toList ++ r.flatMap esc) = nat i ++ (k : Int) :: nat (r.flatMap esc) := by rw [e4]; simp [nat]
        have e6 : KStt.codes z = nat i ++ [(k : Int)] := by rw [codes_map, e4]; simp [nat]
        rw [e5, nums_low _ (by omega), ih, ← e6]
        show _ = (64 * n + (c : Int) % 64 - (c : Int) + 38) :: _
        congr 1
        omega
    · have hc' : ¬ (c : Int) < 64 := by omega
      rw [List.flatMap_cons, h3 c (by omega)]
      show nums n ((c : Int) :: nat (r.flatMap esc)) = marked nm (nums n ((c : Int) :: nat r))
      rw [nums, if_neg hc', ih, nums, if_neg hc']
end Mine
end

section
open PySem PySem.W PyProof.Rows PySem.Spec
set_option Elab.async false
namespace Mine
def endedR (dots : Bool) : Bool → Bool → List Int → List Int
  | _, _, [] => []
  | f, b, n :: r => if b = true ∧ n = 10 then endedR dots f false r
    else (if dots = true ∧ f = true ∧ n = 46 then [46] else []) ++ ((if n % 64 = 13 ∨ n % 64 = 10 then [n - n % 64 + 13, 10] else [n]) ++ endedR dots (decide (n % 64 = 13 ∨ n % 64 = 10)) (decide (n % 64 = 13)) r)
theorem endedR_fold (dots : Bool) : ∀ (row : List Int) (acc : List Int) (f b : Bool), (row.foldl (endStep dots) (acc, f, b)).1 = acc ++ endedR dots f b row
  | [], acc, f, b => by simp [endedR]
  | n :: r, acc, f, b => by
    rw [List.foldl_cons, endedR]
    by_cases h : b = true ∧ n = 10
    · have e : endStep dots (acc, f, b) n = (acc, f, false) := if_pos h
      rw [e, if_pos h]
      exact endedR_fold dots r acc f false
    · have e : endStep dots (acc, f, b) n = ((if dots = true ∧ f = true ∧ n = 46 then acc ++ [46] else acc) ++ (if n % 64 = 13 ∨ n % 64 = 10 then [n - n % 64 + 13, 10] else [n]), decide (n % 64 = 13 ∨ n % 64 = 10), decide (n % 64 = 13)) := if_neg h
      rw [e, if_neg h, endedR_fold dots r]
      by_cases h2 : dots = true ∧ f = true ∧ n = 46
      · rw [if_pos h2, if_pos h2]; simp only [List.append_assoc]
      · rw [if_neg h2, if_neg h2]; simp only [List.append_assoc, List.nil_append]
theorem ended_eq (dots : Bool) (row : List Int) : ended dots row = endedR dots true false row := by
  unfold ended
  rw [endedR_fold]; rfl
/-- the text with its line ends made alike, and the dots that stand first doubled -/
def eols (dots : Bool) : Bool → Bool → List Nat → List Nat
  | _, _, [] => []
  | f, b, c :: r => if b = true ∧ c = 10 then eols dots f false r
    else (if dots = true ∧ f = true ∧ c = 46 then [46] else []) ++ (if c = 13 ∨ c = 10 then 13 :: 10 :: eols dots true (decide (c = 13)) r else c :: eols dots false false r)
theorem nums_eols (dots : Bool) : ∀ (l : List Nat) (n : Int) (f b : Bool), 0 ≤ n → (∀ c ∈ l, c < 128 ∧ c ≠ 64) → nums n (nat (eols dots (f && decide (n = 0)) (b && decide (n = 0)) l)) = endedR dots f b (nums n (nat l))
  | [], n, f, b, _, _ => by simp [eols, nat, nums, endedR]
  | c :: r, n, f, b, hn, hl => by
    have hc := hl c (.head _)
    have hr : ∀ c ∈ r, c < 128 ∧ c ≠ 64 := fun d hd => hl d (.tail _ hd)
    by_cases hlow : c < 64
    · have hc' : (c : Int) < 64 := by omega
      have e0 : (c : Int) % 64 = c := by omega
      have e1 : (64 * n + (c : Int) % 64) % 64 = c := by omega
      have e2 : nums n (nat (c :: r)) = (64 * n + (c : Int)) :: nums 0 (nat r) := by
        show nums n ((c : Int) :: nat r) = _
        rw [nums, if_pos hc', e0]
      rw [e0] at e1
      rw [e2, endedR, eols]
      have ih := fun f b => nums_eols dots r 0 f b (Int.le_refl _) hr
      simp only [decide_true, Bool.and_true] at ih
      by_cases hs : b = true ∧ (64 * n + (c : Int)) = 10
      · have hz : n = 0 := by omega
        have hcz : c = 10 := by omega
        rw [if_pos hs, if_pos ⟨by rw [hs.1]; simp [hz], hcz⟩]
        subst hz
        simp only [decide_true, Bool.and_true]
        exact ih f false
      · have hs' : ¬ ((b && decide (n = 0)) = true ∧ c = 10) := fun h => by
          simp only [Bool.and_eq_true, decide_eq_true_eq] at h
          exact hs ⟨h.1.1, by omega⟩
        rw [if_neg hs, if_neg hs', e1]
        have tail : nums n (nat (if c = 13 ∨ c = 10 then 13 :: 10 :: eols dots true (decide (c = 13)) r else c :: eols dots false false r)) =
            (if (c : Int) = 13 ∨ (c : Int) = 10 then [64 * n + (c : Int) - (c : Int) + 13, 10] else [64 * n + (c : Int)]) ++ endedR dots (decide ((c : Int) = 13 ∨ (c : Int) = 10)) (decide ((c : Int) = 13)) (nums 0 (nat r)) := by
          by_cases h13 : c = 13 ∨ c = 10
          · have h13' : (c : Int) = 13 ∨ (c : Int) = 10 := by omega
            rw [if_pos h13, if_pos h13']
            show nums n ((13 : Int) :: (10 : Int) :: nat _) = _
            rw [nums, if_pos (by decide), nums, if_pos (by decide), ih]
            have e3 : decide ((c : Int) = 13 ∨ (c : Int) = 10) = true := decide_eq_true h13'
            have e4 : decide ((c : Int) = 13) = decide (c = 13) := by congr 1; exact propext ⟨fun h => by omega, fun h => by omega⟩
            rw [e3, e4]
            show _ :: _ :: _ = _ :: _ :: _
            congr 1
            omega
          · have h13' : ¬ ((c : Int) = 13 ∨ (c : Int) = 10) := by omega
            rw [if_neg h13, if_neg h13']
            show nums n ((c : Int) :: nat _) = _
            rw [nums, if_pos hc', ih, e0]
            have e3 : decide ((c : Int) = 13 ∨ (c : Int) = 10) = false := decide_eq_false h13'
            have e4 : decide ((c : Int) = 13) = false := decide_eq_false fun h => h13' (.inl h)
            rw [e3, e4]; rfl
        by_cases hd : dots = true ∧ f = true ∧ (64 * n + (c : Int)) = 46
        · have hz : n = 0 := by omega
          have hcz : c = 46 := by omega
          rw [if_pos hd, if_pos ⟨hd.1, by rw [hd.2.1]; simp [hz], hcz⟩, ← tail]
          subst hz
          show nums 0 ((46 : Int) :: nat _) = _
          rw [nums, if_pos (by decide)]; rfl
        · have hd' : ¬ (dots = true ∧ (f && decide (n = 0)) = true ∧ c = 46) := fun h => by
            simp only [Bool.and_eq_true, decide_eq_true_eq] at h
            exact hd ⟨h.1, h.2.1.1, by omega⟩
          rw [if_neg hd, if_neg hd', ← tail]; rfl
    · have hc' : ¬ (c : Int) < 64 := by omega
      have hs' : ¬ ((b && decide (n = 0)) = true ∧ c = 10) := fun h => by omega
      have hd' : ¬ (dots = true ∧ (f && decide (n = 0)) = true ∧ c = 46) := fun h => by omega
      have h13 : ¬ (c = 13 ∨ c = 10) := by omega
      rw [eols, if_neg hs', if_neg hd', if_neg h13]
      have ih := nums_eols dots r (64 * n + (c : Int) % 64) f b (by omega) hr
      have hnz : decide (64 * n + (c : Int) % 64 = 0) = false := decide_eq_false (by omega)
      rw [hnz, Bool.and_false, Bool.and_false] at ih
      show nums n ((c : Int) :: nat _) = endedR dots f b (nums n ((c : Int) :: nat r))
      rw [nums, if_neg hc', ih, nums, if_neg hc']
theorem ended_text (dots : Bool) (l : List Nat) (hl : ∀ c ∈ l, c < 128 ∧ c ≠ 64) : nums 0 (nat (eols dots true false l)) = ended dots (nums 0 (nat l)) := by
  rw [ended_eq, ← nums_eols dots l 0 true false (Int.le_refl _) hl]; rfl
end Mine
end

section
open PySem PySem.W PyProof.Rows PySem.Spec
set_option Elab.async false
namespace Mine
def pend (n : Int) : List Int := if n = 0 then [] else figs n
theorem figs_push {n d : Int} (hn : 0 ≤ n) (hd : 0 ≤ d) (hd' : d < 64) : figs (64 * n + d) = pend n ++ [d] := by
  unfold pend
  by_cases h : n = 0
  · subst h
    rw [if_pos rfl]
    unfold figs
    rw [figsN_small (by omega)]
    simp; omega
  · rw [if_neg h]
    unfold figs
    rw [figsN_big (by omega), show (64 * n + d).toNat / 64 = n.toNat by omega, show (((64 * n + d).toNat % 64 : Nat) : Int) = d by omega]
theorem pend_push {n d : Int} (hn : 0 ≤ n) (hd : 0 ≤ d) (hd' : d < 64) (h : 64 * n + d ≠ 0) : pend (64 * n + d) = pend n ++ [d] := by
  rw [← figs_push hn hd hd', pend, if_neg h]
def quo (c : Nat) : List Nat := if c = 92 then [92, 92] else if c = 34 then [92, 34] else [c]
theorem held1_push {n c : Int} (hn : 0 ≤ n) (hc : 0 ≤ c) (hc' : c < 64) : held1 (64 * n + c) = 64 * (if c = 34 then 64 * made (pend n) + 28 else made (pend n)) + c := by
  rw [held1, figs_push hn hc hc', List.dropLast_concat, show (64 * n + c) % 64 = c by omega]
theorem nums_held : ∀ (l : List Nat) (n : Int), 0 ≤ n → (∀ c ∈ l, c < 128 ∧ c ≠ 64) → nums (made (pend n)) (nat (l.flatMap quo)) = (nums n (nat l)).map held1
  | [], n, _, _ => rfl
  | c :: r, n, hn, hl => by
    have hc := hl c (.head _)
    have hr : ∀ c ∈ r, c < 128 ∧ c ≠ 64 := fun d hd => hl d (.tail _ hd)
    rw [List.flatMap_cons]
    by_cases hlow : c < 64
    · have hc' : (c : Int) < 64 := by omega
      have e0 : (c : Int) % 64 = c := by omega
      have ih : nums 0 (nat (r.flatMap quo)) = (nums 0 (nat r)).map held1 := nums_held r 0 (Int.le_refl _) hr
      have e2 : nums n (nat (c :: r)) = (64 * n + (c : Int)) :: nums 0 (nat r) := by
        show nums n ((c : Int) :: nat r) = _
        rw [nums, if_pos hc', e0]
      rw [e2, List.map_cons, held1_push hn (by omega) hc', ← ih]
      by_cases h34 : c = 34
      · subst h34
        show nums _ ((92 : Int) :: (34 : Int) :: nat (r.flatMap quo)) = _
        rw [nums, if_neg (by decide), nums, if_pos (by decide)]; rfl
      · have hq : quo c = [c] := by unfold quo; rw [if_neg (by omega), if_neg h34]
        rw [hq, if_neg (by omega)]
        show nums _ ((c : Int) :: nat (r.flatMap quo)) = _
        rw [nums, if_pos hc', e0]
    · have hc' : ¬ (c : Int) < 64 := by omega
      have ih := nums_held r (64 * n + (c : Int) % 64) (by omega) hr
      have e2 : nums n (nat (c :: r)) = nums (64 * n + (c : Int) % 64) (nat r) := by
        show nums n ((c : Int) :: nat r) = _
        rw [nums, if_neg hc']
      rw [e2, ← ih, pend_push hn (by omega) (by omega) (by omega), made_snoc]
      by_cases h92 : c = 92
      · subst h92
        show nums _ ((92 : Int) :: (92 : Int) :: nat (r.flatMap quo)) = _
        rw [nums, if_neg (by decide), nums, if_neg (by decide)]; rfl
      · have hq : quo c = [c] := by unfold quo; rw [if_neg h92, if_neg (by omega)]
        rw [hq, madeStep, if_neg (by omega)]
        show nums _ ((c : Int) :: nat (r.flatMap quo)) = _
        rw [nums, if_neg hc']
/-- the signs that ask for marks -/
def sp (c : Nat) : Bool := [32, 34, 40, 41, 44, 47, 58, 59, 60, 61, 62, 63, 91, 92, 93].contains c
theorem spec1_push {n c : Int} (hn : 0 ≤ n) (hc : 0 ≤ c) (hc' : c < 64) : spec1 (64 * n + c) = (signs.contains c || (pend n).any (marks.contains ·)) := by
  unfold spec1
  rw [figs_push hn hc hc', List.dropLast_concat, show (64 * n + c) % 64 = c by omega]
  congr 1
  generalize pend n = p
  induction p with
  | nil => rfl
  | cons x p ih =>
    rw [List.filter_cons, List.any_cons, ← ih]
    cases hx : marks.contains x <;> simp
theorem sp_low : ∀ c : Nat, c < 64 → signs.contains (c : Int) = sp c := by decide
theorem sp_high : ∀ c : Nat, c < 128 → 64 < c → marks.contains ((c : Int) % 64) = sp c := by decide
theorem any_spec : ∀ (l : List Nat) (n : Int), 0 ≤ n → (∀ c ∈ l, c < 128 ∧ c ≠ 64) → (∀ c, l.getLast? = some c → c < 64) → l ≠ [] → (nums n (nat l)).any spec1 = ((pend n).any (marks.contains ·) || l.any sp)
  | [], _, _, _, _, h => absurd rfl h
  | c :: r, n, hn, hl, hlast, _ => by
    have hc := hl c (.head _)
    have hr : ∀ c ∈ r, c < 128 ∧ c ≠ 64 := fun d hd => hl d (.tail _ hd)
    have hlr : r ≠ [] → ∀ c, r.getLast? = some c → c < 64 := fun hne d hd => hlast d (by rw [List.getLast?_cons, hd]; rfl)
    by_cases hlow : c < 64
    · have hc' : (c : Int) < 64 := by omega
      have e0 : (c : Int) % 64 = c := by omega
      have e2 : nums n (nat (c :: r)) = (64 * n + (c : Int)) :: nums 0 (nat r) := by
        show nums n ((c : Int) :: nat r) = _
        rw [nums, if_pos hc', e0]
      rw [e2, List.any_cons, List.any_cons, spec1_push hn (by omega) hc', sp_low c hlow]
      by_cases hne : r = []
      · subst hne
        show (_ || _ || false) = (_ || (_ || false))
        cases sp c <;> simp
      · rw [any_spec r 0 (Int.le_refl _) hr (hlr hne) hne]
        show (_ || _ || (false || _)) = _
        cases sp c <;> simp
    · have hc' : ¬ (c : Int) < 64 := by omega
      have hne : r ≠ [] := fun e => by
        subst e
        have := hlast c rfl
        omega
      have e2 : nums n (nat (c :: r)) = nums (64 * n + (c : Int) % 64) (nat r) := by
        show nums n ((c : Int) :: nat r) = _
        rw [nums, if_neg hc']
      rw [e2, any_spec r _ (by omega) hr (hlr hne) hne, pend_push hn (by omega) (by omega) (by omega), List.any_append, List.any_cons, List.any_cons, sp_high c (by omega) (by omega)]
      simp [Bool.or_assoc]
theorem quo_low {c : Nat} (h : c < 64) : ∃ q, quo c = q ++ [c] := by
  unfold quo
  by_cases h34 : c = 34
  · subst h34; exact ⟨[92], rfl⟩
  · exact ⟨[], by rw [if_neg (by omega), if_neg h34]; rfl⟩
def param (wished : Bool) (l : List Nat) : List Nat := if (wished || l.any sp) = true then [112, 61, 34] ++ l.flatMap quo ++ [34] else [112, 61] ++ l
theorem held_text (wished : Bool) (l : List Nat) (hl : ∀ c ∈ l, c < 128 ∧ c ≠ 64) (hlast : ∀ c, l.getLast? = some c → c < 64) (hne : l ≠ []) : nums 0 (nat (param wished l)) = held wished (nums 0 (nat l)) := by
  have ha := any_spec l 0 (Int.le_refl _) hl hlast hne
  rw [show pend 0 = [] from rfl, List.any_nil, Bool.false_or] at ha
  unfold held param
  rw [ha]
  by_cases h : (wished || l.any sp) = true
  · rw [if_pos h, if_pos h]
    have hq : nums 0 (nat (l.flatMap quo)) = (nums 0 (nat l)).map held1 := nums_held l 0 (Int.le_refl _) hl
    rw [← hq]
    obtain ⟨i, c, rfl⟩ : ∃ i c, l = i ++ [c] := ⟨l.dropLast, l.getLast hne, (List.dropLast_concat_getLast hne).symm⟩
    have hc : c < 64 := hlast c (by simp)
    obtain ⟨q, hq⟩ := quo_low hc
    have e1 : (i ++ [c]).flatMap quo = (i.flatMap quo ++ q) ++ [c] := by simp [List.flatMap_append, hq]
    rw [e1]
    have e2 : nat ([112, 61, 34] ++ ((i.flatMap quo ++ q) ++ [c]) ++ [34]) = (112 : Int) :: (61 : Int) :: (34 : Int) :: (nat (i.flatMap quo ++ q) ++ (c : Int) :: [(34 : Int)]) := by simp [nat]
    have e3 : nat ((i.flatMap quo ++ q) ++ [c]) = nat (i.flatMap quo ++ q) ++ [(c : Int)] := by simp [nat]
    rw [e2, e3, nums, if_neg (by decide), nums, if_pos (by decide), nums, if_pos (by decide), nums_low _ (by omega)]
    rfl
  · rw [if_neg h, if_neg h]
    show nums 0 ((112 : Int) :: (61 : Int) :: nat l) = _
    rw [nums, if_neg (by decide), nums, if_pos (by decide)]; rfl
end Mine
end

section
open PySem PySem.W PyProof.Rows PySem.Spec
set_option Elab.async false
namespace Mine
/-- a text's codes are of use -/
structure GoodN (l : List Nat) : Prop where
  all : ∀ c ∈ l, c < 128 ∧ c ≠ 64
  last : ∀ c, l.getLast? = some c → c < 64
  ne : l ≠ []
theorem GoodN.good : ∀ {l : List Nat}, (∀ c ∈ l, c < 128 ∧ c ≠ 64) → (∀ c, l.getLast? = some c → c < 64) → Good (nat l)
  | [], _, _ => trivial
  | [c], _, hl => by
    have := hl c rfl
    show 0 ≤ (c : Int) ∧ (c : Int) < 64
    omega
  | c :: d :: r, ha, hl => by
    have hc := ha c (.head _)
    exact Good.cons (by simp [nat]) (show (0 : Int) ≤ (c : Int) by omega) (show (c : Int) < 128 by omega) (show (c : Int) ≠ 64 by omega) (GoodN.good (l := d :: r) (fun x hx => ha x (.tail _ hx)) fun x hx => hl x (by rw [List.getLast?_cons_cons]; exact hx))
/-- a list that ends low -/
def Low (l : List Nat) : Prop := ∀ c, l.getLast? = some c → c < 64
theorem low_app {a b : List Nat} (h : b ≠ []) (hb : Low b) : Low (a ++ b) := fun c hc => by
  rw [List.getLast?_append] at hc
  cases e : b.getLast? with
  | none => exact absurd (List.getLast?_eq_none_iff.mp e) h
  | some d => rw [e] at hc; exact hb c (by rw [e]; exact hc)
theorem GoodN.flat {l : List Nat} (h : GoodN l) {f : Nat → List Nat} (hf : ∀ c, c < 128 → c ≠ 64 → (∀ x ∈ f c, x < 128 ∧ x ≠ 64) ∧ f c ≠ [] ∧ (c < 64 → Low (f c))) : GoodN (l.flatMap f) := by
  obtain ⟨i, c, rfl⟩ : ∃ i c, l = i ++ [c] := ⟨l.dropLast, l.getLast h.ne, (List.dropLast_concat_getLast h.ne).symm⟩
  have hc : c < 64 := h.last c (by simp)
  have hcm := h.all c (by simp)
  have e : (i ++ [c]).flatMap f = i.flatMap f ++ f c := by simp [List.flatMap_append]
  refine ⟨fun x hx => ?_, ?_, ?_⟩
  · obtain ⟨d, hd, hx⟩ := List.mem_flatMap.mp hx
    have := h.all d hd
    exact (hf d this.1 this.2).1 x hx
  · rw [e]; exact low_app (hf c hcm.1 hcm.2).2.1 ((hf c hcm.1 hcm.2).2.2 hc)
  · rw [e]; simp [(hf c hcm.1 hcm.2).2.1]
def tabOk (T : List (Nat × List Nat)) : Bool := T.all fun p => p.2.all (fun x => decide (x < 128 ∧ x ≠ 64)) && match p.2.getLast? with | some c => decide (c < 64) | none => false
theorem tab_good {T : List (Nat × List Nat)} (hT : tabOk T = true) (c : Nat) (h1 : c < 128) (h2 : c ≠ 64) : (∀ x ∈ tab T c, x < 128 ∧ x ≠ 64) ∧ tab T c ≠ [] ∧ (c < 64 → Low (tab T c)) := by
  induction T with
  | nil =>
    have e : tab [] c = [c] := rfl
    rw [e]
    refine ⟨fun x hx => by rw [List.mem_singleton.mp hx]; exact ⟨h1, h2⟩, by simp, fun h x hx => ?_⟩
    simp at hx; omega
  | cons p T ih =>
    rw [tabOk, List.all_cons, Bool.and_eq_true, Bool.and_eq_true] at hT
    by_cases e : c = p.1
    · have e1 : tab (p :: T) c = p.2 := by subst e; simp [tab, List.lookup]
      rw [e1]
      refine ⟨fun x hx => ?_, ?_, fun _ x hx => ?_⟩
      · have := List.all_eq_true.mp hT.1.1 x hx
        exact of_decide_eq_true this
      · intro q; have := hT.1.2; rw [q] at this; cases this
      · have := hT.1.2; rw [hx] at this; exact of_decide_eq_true this
    · have e' : (c == p.1) = false := by simp [e]
      have e1 : tab (p :: T) c = tab T c := by simp [tab, List.lookup, e']
      rw [e1]; exact ih hT.2
theorem GoodN.tab {l : List Nat} (h : GoodN l) {T : List (Nat × List Nat)} (hT : tabOk T = true) : GoodN (l.flatMap (tab T)) := h.flat fun c => tab_good hT c
theorem GoodN.quo {l : List Nat} (h : GoodN l) : GoodN (l.flatMap quo) := h.flat fun c h1 h2 => by
  unfold Mine.quo
  split
  · rename_i e
    subst e
    refine ⟨by simp, by simp, fun h => by omega⟩
  split
  · refine ⟨by simp, by simp, fun h x hx => ?_⟩
    simp at hx; omega
  · refine ⟨by simp [h1, h2], by simp, fun h x hx => ?_⟩
    simp at hx; omega
theorem GoodN.param {l : List Nat} (h : GoodN l) (wished : Bool) : GoodN (param wished l) := by
  unfold Mine.param
  split
  · refine ⟨fun x hx => ?_, ?_, by simp⟩
    · simp only [List.mem_append, List.mem_cons, List.not_mem_nil, or_false] at hx
      rcases hx with ((rfl | rfl | rfl) | hx) | rfl
      · decide
      · decide
      · decide
      · exact h.quo.all x hx
      · decide
    · exact low_app (by simp) fun x hx => by simp at hx; omega
  · refine ⟨fun x hx => ?_, low_app h.ne h.last, by simp⟩
    simp only [List.mem_append, List.mem_cons, List.not_mem_nil, or_false] at hx
    rcases hx with (rfl | rfl) | hx
    · decide
    · decide
    · exact h.all x hx
theorem param_len (wished : Bool) (l : List Nat) : (param wished l).length ≤ 2 * l.length + 4 := by
  have hq : ∀ l : List Nat, (l.flatMap quo).length ≤ 2 * l.length := fun l => by
    induction l with
    | nil => exact Nat.le_refl _
    | cons c r ih =>
      rw [List.flatMap_cons, List.length_append, List.length_cons]
      have : (quo c).length ≤ 2 := by
        unfold quo
        split
        · exact Nat.le_refl _
        · split
          · exact Nat.le_refl _
          · exact Nat.le_succ _
      omega
  have := hq l
  unfold param
  split <;> simp only [List.length_append, List.length_cons, List.length_nil] <;> omega
theorem low_cat {a b : List Nat} (ha : Low a) (hb : Low b) : Low (a ++ b) := by
  by_cases h : b = []
  · subst h; simpa using ha
  · exact low_app h hb
theorem low_tail {c : Nat} {r : List Nat} (h : Low (c :: r)) : Low r := fun x hx => h x (by rw [List.getLast?_cons, hx]; rfl)
theorem eols_ne (dots f : Bool) : ∀ r : List Nat, r ≠ [] → eols dots f false r ≠ []
  | [], h => absurd rfl h
  | c :: r, _ => by
    rw [eols, if_neg (fun h => Bool.noConfusion h.1)]
    intro e
    have := (List.append_eq_nil_iff.mp e).2
    split at this <;> cases this
theorem eols_low (dots : Bool) : ∀ (l : List Nat) (f b : Bool), Low l → Low (eols dots f b l)
  | [], f, b, _ => fun x hx => by simp [eols] at hx
  | c :: r, f, b, h => by
    have hr := low_tail h
    rw [eols]
    by_cases hs : b = true ∧ c = 10
    · rw [if_pos hs]; exact eols_low dots r f false hr
    · rw [if_neg hs]
      by_cases h13 : c = 13 ∨ c = 10
      · rw [if_pos h13]
        exact low_app (by simp) (low_cat (a := [13, 10]) (fun x hx => by simp at hx; omega) (eols_low dots r true _ hr))
      · rw [if_neg h13]
        refine low_app (by simp) ?_
        by_cases hn : r = []
        · subst hn
          have : c < 64 := h c rfl
          intro x hx
          simp [eols] at hx; omega
        · exact low_app (a := [c]) (eols_ne dots false r hn) (eols_low dots r false false hr)
theorem eols_all (dots : Bool) : ∀ (l : List Nat) (f b : Bool), (∀ c ∈ l, c < 128 ∧ c ≠ 64) → ∀ x ∈ eols dots f b l, x < 128 ∧ x ≠ 64
  | [], _, _, _, x, hx => by simp [eols] at hx
  | c :: r, f, b, h, x, hx => by
    have hr : ∀ c ∈ r, c < 128 ∧ c ≠ 64 := fun d hd => h d (.tail _ hd)
    rw [eols] at hx
    by_cases hs : b = true ∧ c = 10
    · rw [if_pos hs] at hx; exact eols_all dots r f false hr x hx
    · rw [if_neg hs] at hx
      rcases List.mem_append.mp hx with hx | hx
      · split at hx
        · rw [List.mem_singleton.mp hx]; decide
        · cases hx
      · split at hx
        · rcases List.mem_cons.mp hx with rfl | hx
          · decide
          rcases List.mem_cons.mp hx with rfl | hx
          · decide
          exact eols_all dots r _ _ hr x hx
        · rcases List.mem_cons.mp hx with rfl | hx
          · exact h _ (.head _)
          exact eols_all dots r _ _ hr x hx
theorem eols_len (dots : Bool) : ∀ (l : List Nat) (f b : Bool), (eols dots f b l).length ≤ 3 * l.length
  | [], _, _ => Nat.le_refl _
  | c :: r, f, b => by
    rw [eols, List.length_cons]
    by_cases hs : b = true ∧ c = 10
    · rw [if_pos hs]
      have := eols_len dots r f false
      omega
    · rw [if_neg hs, List.length_append]
      have h1 := eols_len dots r true (decide (c = 13))
      have h2 := eols_len dots r false false
      by_cases h46 : dots = true ∧ f = true ∧ c = 46
      · have h13 : ¬ (c = 13 ∨ c = 10) := by omega
        rw [if_pos h46, if_neg h13]
        simp only [List.length_cons, List.length_nil]; omega
      · rw [if_neg h46]
        split <;> simp only [List.length_cons, List.length_nil] <;> omega
theorem GoodN.eols {l : List Nat} (h : GoodN l) (dots : Bool) : GoodN (eols dots true false l) :=
  ⟨eols_all dots l true false h.all, eols_low dots l true false h.last, eols_ne dots true l h.ne⟩
end Mine
end

section
open PySem PySem.W PyProof.Rows PySem.Spec
set_option Elab.async false
set_option maxRecDepth 100000
namespace Mine
open PySem.Calls
theorem quo_len (l : List Nat) : (l.flatMap quo).length ≤ 2 * l.length := by
  induction l with
  | nil => exact Nat.le_refl _
  | cons c r ih =>
    rw [List.flatMap_cons, List.length_append, List.length_cons]
    have : (quo c).length ≤ 2 := by
      unfold quo
      split
      · exact Nat.le_refl _
      · split
        · exact Nat.le_refl _
        · exact Nat.le_succ _
    omega
theorem replaceM {prog : Program} {w : World} {A : Around} {E : Value → Shared → Prop} {s : Shared} {x y z : Str} {t u v : Tok} {Q : Value → Shared → Prop} (hu : u ≠ 0) (hv : v ≠ 0) (huv : u ≠ v) (hyz : (y == z) = false) (hx : x.length ≤ 1048576) (hz : z.length ≤ 14)
    (hq : ∀ t' k, s.toks ≤ k → Q (.str (Txt.replace x y z) t') { s with toks := k }) : wpAny (model prog w) A (call (.builtin "str.replace") [.str x t, .str y u, .str z v]) Q E s := by
  have hb : x.length + (x.length + 1) * z.length ≤ 16777216 := by
    have h1 : (x.length + 1) * z.length ≤ (x.length + 1) * 14 := Nat.mul_le_mul_left _ hz
    omega
  have e : (2 : Nat) ^ 24 = 16777216 := by decide
  have hl : Builtin.Str.tooLong (x.length + (Builtin.Str.occurrences x y 0 x.length (x.length + 1)).length * z.length) = false := by
    have h1 := StrLaws.occ_length_le x y 0 x.length (x.length + 1)
    have h2 : (Builtin.Str.occurrences x y 0 x.length (x.length + 1)).length * z.length ≤ (x.length + 1) * z.length := Nat.mul_le_mul_right _ h1
    unfold Builtin.Str.tooLong
    rw [sizeLine_eq]
    exact decide_eq_false (by omega)
  refine call_gives F.slot_str_replace (typeIs_str _ _ _) F.entry_str_replace (F.args_str_replace_3 _ _ _)
    (gives_str_replace x y z t u v fun _ => ⟨by simp [hu, hv], by simp [huv], hyz, hl⟩) ?_
  unfold Txt.replace at hq
  cases hc : ((Builtin.Str.occurrences x y 0 x.length (x.length + 1)).isEmpty || (y.length == 0 && z.length == 0))
  · rw [hc] at hq
    simp only [Bool.false_eq_true, if_false] at hq ⊢
    exact ⟨fits_replaced y hb, hq _ _ (Nat.le_succ _)⟩
  · rw [hc] at hq
    simp only [if_true] at hq ⊢
    exact hq t s.toks (Nat.le_refl _)
local macro_rules | `(tactic| walk_at "execs cons") => `(tactic| ((with_reducible refine wpAny_execs_cons ?_); try dsimp only))
local macro_rules | `(tactic| walk_at "call builtin:str.replace") => `(tactic| (refine stop ?_))

set_option maxHeartbeats 700000 in
theorem form1_code {w : World} {mean : ExcName → Option Value} {mg mb : Str → Option Value} {s : Shared} {dp un : Nat} {fr : Option (List Env)} {gd : Option (List Code)} {R : Result → Shared → Prop}
    {x : Str} {t tp t1 : Tok} (X : (hd.heap_39 w.params).In s.heap) (T : TP mean mg mb s.heap) (hdp : dp < 680) (hlen : x.length ≤ 10000) (hne : x.length ≠ 0)
    (h : ∀ y : Str, y.cps.toList = param true x.cps.toList → BackStr s R y) :
    codeAny (model PySem.Challenge.rw_ta0015_01.row.prog w) (AR none dp un fr gd) (.call (.ref 75) ⟨[.str (Str.ofString "p") tp, .str x t, .int 1 t1], []⟩) R s := by
  revert X
  k_fill
  intro X
  k_with_none
  refine enter (binds := [(Str.ofString "param", .str (Str.ofString "p") tp), (Str.ofString "value", .str x t), (Str.ofString "quote", .int 1 t1)]) X T (by k_is) (by k_is) (roomA (by omega)) (binds_K X rfl (by k_is) rfl rfl rfl) (locs rfl) ?_
  intro L h₁ F N
  (try dsimp only)
  k_steps
  refine goOn ?_
  refine replaceM ?_ ?_ ?_ ?_ ?_ ?_ ?_
  · exact Nat.succ_ne_zero _
  · exact Nat.succ_ne_zero _
  · exact Nat.ne_of_lt (Nat.lt_succ_self _)
  · decide
  · omega
  · decide
  intro t5 k5 hk5
  k_steps
  refine goOn ?_
  have hx1 : (rep x 92 (Str.ofString "\\\\")).cps.toList = x.cps.toList.flatMap (put 92 [92, 92]) := rep_flat _ _ _
  have hl1 : (rep x 92 (Str.ofString "\\\\")).length ≤ 30000 := by
    have h1 := flat_len 92 [92, 92] x.cps.toList
    rw [← hx1] at h1
    have e1 : (rep x 92 (Str.ofString "\\\\")).cps.toList.length = (rep x 92 (Str.ofString "\\\\")).length := Array.length_toList
    have e2 : x.cps.toList.length = x.length := Array.length_toList
    simp only [List.length_cons, List.length_nil] at h1
    omega
  refine replaceM ?_ ?_ ?_ ?_ ?_ ?_ ?_
  · exact Nat.pos_iff_ne_zero.mp (Nat.lt_of_lt_of_le (Nat.succ_pos _) hk5)
  · exact Nat.succ_ne_zero _
  · exact Nat.ne_of_lt (Nat.lt_succ_self _)
  · decide
  · exact Nat.le_trans hl1 (by decide)
  · decide
  intro t6 k6 hk6
  have hx2 : (Txt.replace (Txt.replace x (Str.ofString "\\") (Str.ofString "\\\\")) (Str.ofString "\"") (Str.ofString "\\\"")).cps.toList = x.cps.toList.flatMap quo := by
    show (rep (rep x 92 (Str.ofString "\\\\")) 34 (Str.ofString "\\\"")).cps.toList = _
    rw [rep_flat, hx1, List.flatMap_assoc]
    congr 1
    funext k
    show (put 92 [92, 92] k).flatMap (put 34 [92, 34]) = quo k
    unfold put quo
    by_cases h92 : k = 92
    · subst h92; rfl
    · rw [if_neg h92, if_neg h92]
      by_cases h34 : k = 34
      · subst h34; rfl
      · rw [if_neg h34]; simp [h34]
  generalize Txt.replace (Txt.replace x (Str.ofString "\\") (Str.ofString "\\\\")) (Str.ofString "\"") (Str.ofString "\\\"") = x2 at *
  have hl2 : x2.length ≤ 30000 := by
    have h1 := quo_len x.cps.toList
    rw [← hx2] at h1
    have e1 : x2.cps.toList.length = x2.length := Array.length_toList
    have e2 : x.cps.toList.length = x.length := Array.length_toList
    omega
  k_steps
  refine h _ ?_ _ _ _ (Fr.keep (by assumption))
  show _ = _
  simp only [Str.cps_append, Array.toList_append, hx2, param, Bool.true_or, if_true]
  rfl
end Mine
end

section
open PySem
set_option Elab.async false
namespace Mine
open Sre hiding Frame
open Sre.M hiding exec resume

def iterS : Nat → M → M
  | 0, m => m
  | n + 1, m => iterS n m.step
theorem step_fix {m : M} (h : m.outcome.isSome = true) : m.step = m := by unfold M.step; rw [if_pos h]
theorem iter_fix {m : M} (h : m.outcome.isSome = true) : ∀ n, iterS n m = m
  | 0 => rfl
  | n + 1 => by rw [iterS, step_fix h]; exact iter_fix h n
theorem runFor_iter : ∀ (n : Nat) (m : M), runFor n m = iterS n m
  | 0, _ => rfl
  | n + 1, m => by
    unfold runFor
    by_cases h : m.outcome.isSome = true
    · rw [if_pos h, iter_fix h]
    · rw [if_neg h]; exact runFor_iter n _
theorem iter_add : ∀ (a b : Nat) (m : M), iterS (a + b) m = iterS b (iterS a m)
  | 0, b, m => by rw [Nat.zero_add]; rfl
  | a + 1, b, m => by rw [Nat.add_right_comm]; exact iter_add a b _

def Goes (n : Nat) (m : M) (P : M → Prop) : Prop := ∃ k, k ≤ n ∧ P (iterS k m)
theorem Goes.step {n : Nat} {m : M} {P : M → Prop} (h : Goes n m.step P) : Goes (n + 1) m P := let ⟨k, hk, h⟩ := h; ⟨k + 1, Nat.succ_le_succ hk, h⟩
theorem Goes.here {n : Nat} {m : M} {P : M → Prop} (h : P m) : Goes n m P := ⟨0, Nat.zero_le _, h⟩
theorem Goes.mono {n n' : Nat} {m : M} {P : M → Prop} (hn : n ≤ n') (h : Goes n m P) : Goes n' m P := let ⟨k, hk, h⟩ := h; ⟨k, Nat.le_trans hk hn, h⟩

abbrev S (code text : Array Nat) (start pc pos handed : Nat) (o : Bool) (fs : List Sre.Frame) (wt : Nat) (ans : Option Bool) (seen : Seen) : M :=
  { code, text, lim := text.size, start, lastStart := text.size, pc, pos, handed, outermost := o, marks := #[], frames := fs, weight := wt, answer := ans, seen }

section
variable {code text : Array Nat} {st pc pos hd wt n : Nat} {o : Bool} {fs : List Sre.Frame} {seen : Seen} {P : M → Prop}
theorem S_step (hc : pc < code.size) : (S code text st pc pos hd o fs wt none seen).step = (S code text st pc pos hd o fs wt none seen).exec := by
  show (if _ then _ else _) = _
  rw [if_neg (by simp)]
  show (if pc < code.size then _ else _) = _
  rw [if_pos hc]

theorem g_lit {c : Nat} (hc : pc < code.size) (h0 : ops[code.getD (pc + 0) 0]? = some .LITERAL) (h1 : code.getD (pc + 1) 0 = c)
    (yes : pos < text.size → text.getD pos 0 = c → ∀ seen', Goes n (S code text st (pc + 2) (pos + 1) hd o fs wt none seen') P)
    (no : (text.size ≤ pos ∨ text.getD pos 0 ≠ c) → ∀ seen', Goes n (S code text st pc pos hd o fs wt (some false) seen') P) :
    Goes (n + 1) (S code text st pc pos hd o fs wt none seen) P := by
  refine Goes.step ?_
  rw [S_step hc]
  have h0' : ops[(S code text st pc pos hd o fs wt none seen).word 0]? = some .LITERAL := h0
  unfold Sre.M.exec
  simp only [h0']
  by_cases hp : pos ≥ text.size
  · rw [if_pos hp]; exact no (.inl hp) _
  · rw [if_neg hp]
    have ha : ∀ seen', accepts code pc (text.getD pos 0) seen' = .ok (text.getD pos 0 == c, seen') := by
      intro seen'
      unfold accepts
      have : ops[code.getD pc 0]? = some .LITERAL := h0
      simp only [this, h1]
    simp only [ha]
    have hw : itemWidth code pc = 2 := by
      unfold itemWidth
      have : ops[code.getD pc 0]? = some .LITERAL := h0
      simp only [this]
    by_cases hx : text.getD pos 0 = c
    · rw [show (text.getD pos 0 == c) = true from by simpa using hx]
      have := yes (Nat.lt_of_not_le hp) hx (seen.add ((S code text st pc pos hd o fs wt none seen).word 0))
      simpa only [hw] using this
    · rw [show (text.getD pos 0 == c) = false from by simpa using hx]
      exact no (.inr hx) _
theorem g_in {k : Nat} (hc : pc < code.size) (h0 : ops[code.getD (pc + 0) 0]? = some .IN) (h1 : code.getD (pc + 1) 0 = k)
    (hb : ∀ seen', ∃ seen'', inSet code (text.getD pos 0) code.size (pc + 2) true seen' = .ok (true, seen'')) (hp : pos < text.size)
    (yes : ∀ seen', Goes n (S code text st (pc + (1 + k)) (pos + 1) hd o fs wt none seen') P) :
    Goes (n + 1) (S code text st pc pos hd o fs wt none seen) P := by
  refine Goes.step ?_
  rw [S_step hc]
  have h0' : ops[(S code text st pc pos hd o fs wt none seen).word 0]? = some .IN := h0
  unfold Sre.M.exec
  simp only [h0']
  rw [if_neg (Nat.not_le.mpr hp)]
  obtain ⟨s2, e2⟩ := hb (seen.add ((S code text st pc pos hd o fs wt none seen).word 0))
  have ha : accepts code pc (text.getD pos 0) (seen.add ((S code text st pc pos hd o fs wt none seen).word 0)) = .ok (true, s2) := by
    unfold accepts
    have : ops[code.getD pc 0]? = some .IN := h0
    simp only [this]
    exact e2
  simp only [ha]
  have hw : itemWidth code pc = 1 + k := by
    unfold itemWidth
    have : ops[code.getD pc 0]? = some .IN := h0
    simp only [this, h1]
  have := yes s2
  simpa only [hw] using this
theorem g_at (hc : pc < code.size) (h0 : ops[code.getD (pc + 0) 0]? = some .AT) (h1 : code.getD (pc + 1) 0 = 1)
    (yes : (pos == 0 || text.getD (pos - 1) 0 == 10) = true → ∀ seen', Goes n (S code text st (pc + 2) pos hd o fs wt none seen') P)
    (no : (pos == 0 || text.getD (pos - 1) 0 == 10) = false → ∀ seen', Goes n (S code text st pc pos hd o fs wt (some false) seen') P) :
    Goes (n + 1) (S code text st pc pos hd o fs wt none seen) P := by
  refine Goes.step ?_
  rw [S_step hc]
  have h0' : ops[(S code text st pc pos hd o fs wt none seen).word 0]? = some .AT := h0
  unfold Sre.M.exec
  simp only [h0']
  have h1' : ∀ seen', (S code text st pc pos hd o fs wt none seen').isAt ((S code text st pc pos hd o fs wt none seen').word 1) = .ok (pos == 0 || text.getD (pos - 1) 0 == 10) := by
    intro seen'
    show isAt _ (code.getD (pc + 1) 0) = _
    rw [h1]
    rfl
  simp only [h1']
  cases hb : (pos == 0 || text.getD (pos - 1) 0 == 10)
  · exact no hb _
  · exact yes hb _
theorem g_ok (hc : pc < code.size) (h0 : ops[code.getD (pc + 0) 0]? = some .SUCCESS)
    (yes : ∀ seen', Goes n (S code text st pc pos pos o fs wt (some true) seen') P) :
    Goes (n + 1) (S code text st pc pos hd o fs wt none seen) P := by
  refine Goes.step ?_
  rw [S_step hc]
  have h0' : ops[(S code text st pc pos hd o fs wt none seen).word 0]? = some .SUCCESS := h0
  unfold Sre.M.exec
  simp only [h0']
  rw [if_neg (by simp)]
  exact yes _
theorem g_jump {k : Nat} (hc : pc < code.size) (h0 : ops[code.getD (pc + 0) 0]? = some .JUMP) (h1 : code.getD (pc + 1) 0 = k)
    (yes : ∀ seen', Goes n (S code text st (pc + 1 + k) pos hd o fs wt none seen') P) :
    Goes (n + 1) (S code text st pc pos hd o fs wt none seen) P := by
  refine Goes.step ?_
  rw [S_step hc]
  have h0' : ops[(S code text st pc pos hd o fs wt none seen).word 0]? = some .JUMP := h0
  unfold Sre.M.exec
  simp only [h0']
  have := yes (seen.add ((S code text st pc pos hd o fs wt none seen).word 0))
  rw [← h1] at this
  exact this
abbrev fB (alt pos : Nat) (o : Bool) : Sre.Frame := { wait := .nextBranch, pc := alt, pos, outermost := o }
abbrev fS (pc pos : Nat) (o : Bool) : Sre.Frame := { wait := .nextStart, pc, pos, outermost := o }
abbrev fN (pc pos : Nat) (o : Bool) : Sre.Frame := { wait := .lookNot, pc, pos, outermost := o }
theorem alt_go {alt : Nat} (h1 : (code.getD alt 0 == 0) = false) (hw : wt ≤ 100) :
    (S code text st pc pos hd o fs wt none seen).alternative alt {} = S code text st (alt + 1) pos pos o (fB alt pos o :: fs) (wt + 1) none seen := by
  unfold alternative
  rw [show ((S code text st pc pos hd o fs wt none seen).code.getD alt 0 == 0) = false from h1]
  unfold attempt
  have : ¬ (S code text st pc pos hd o fs wt none seen).weight + 1 + ({ (S code text st pc pos hd o fs wt none seen).frame .nextBranch with pc := alt, kept := {} } : Sre.Frame).kept.marks.size > 16777216 := by
    show ¬ wt + 1 + 0 > 16777216
    omega
  simp only [Bool.false_eq_true, if_false]
  rw [if_neg this]
  rfl
theorem g_branch (hc : pc < code.size) (h0 : ops[code.getD (pc + 0) 0]? = some .BRANCH) (h1 : (code.getD (pc + 1) 0 == 0) = false) (hw : wt ≤ 100)
    (yes : ∀ seen', Goes n (S code text st (pc + 1 + 1) pos pos o (fB (pc + 1) pos o :: fs) (wt + 1) none seen') P) :
    Goes (n + 1) (S code text st pc pos hd o fs wt none seen) P := by
  refine Goes.step ?_
  rw [S_step hc]
  have h0' : ops[(S code text st pc pos hd o fs wt none seen).word 0]? = some .BRANCH := h0
  unfold Sre.M.exec
  simp only [h0']
  have := yes (seen.add ((S code text st pc pos hd o fs wt none seen).word 0))
  rw [← alt_go (pc := pc) (hd := hd) h1 hw] at this
  exact this
theorem g_not (hc : pc < code.size) (h0 : ops[code.getD (pc + 0) 0]? = some .ASSERT_NOT) (h2 : code.getD (pc + 2) 0 = 0) (hw : wt ≤ 100)
    (yes : ∀ seen', Goes n (S code text st (pc + 3) pos pos false (fN pc pos o :: fs) (wt + 1) none seen') P) :
    Goes (n + 1) (S code text st pc pos hd o fs wt none seen) P := by
  refine Goes.step ?_
  rw [S_step hc]
  have h0' : ops[(S code text st pc pos hd o fs wt none seen).word 0]? = some .ASSERT_NOT := h0
  unfold Sre.M.exec
  simp only [h0']
  have h2' : (S code text st pc pos hd o fs wt none (seen.add ((S code text st pc pos hd o fs wt none seen).word 0))).word 2 = 0 := h2
  rw [if_neg (by show ¬ pos < _; rw [h2']; exact Nat.not_lt_zero _)]
  have := yes (seen.add ((S code text st pc pos hd o fs wt none seen).word 0))
  unfold attempt
  rw [if_neg (by show ¬ wt + 1 + 0 > 16777216; omega)]
  simp only [h2']
  exact this
theorem b_yes1 {p1 p2 : Nat} {o1 : Bool} (yes : Goes n (S code text st p1 p2 hd o1 fs (wt - 1) (some true) seen) P) :
    Goes (n + 1) (S code text st pc pos hd o (fS p1 p2 o1 :: fs) wt (some true) seen) P := by
  refine Goes.step ?_
  show Goes n (if _ then _ else _) P
  rw [if_neg (by simp)]
  exact yes
theorem b_yes2 {p1 p2 : Nat} {o1 : Bool} (yes : Goes n (S code text st p1 p2 hd o1 fs (wt - 1) (some true) seen) P) :
    Goes (n + 1) (S code text st pc pos hd o (fB p1 p2 o1 :: fs) wt (some true) seen) P := by
  refine Goes.step ?_
  show Goes n (if _ then _ else _) P
  rw [if_neg (by simp)]
  exact yes
theorem b_branch {alt p2 : Nat} {o1 : Bool} (h1 : (code.getD (alt + code.getD alt 0) 0 == 0) = false) (hw : wt ≤ 100)
    (yes : Goes n (S code text st (alt + code.getD alt 0 + 1) p2 p2 o1 (fB (alt + code.getD alt 0) p2 o1 :: fs) (wt - 1 + 1) none seen) P) :
    Goes (n + 1) (S code text st pc pos hd o (fB alt p2 o1 :: fs) wt (some false) seen) P := by
  refine Goes.step ?_
  show Goes n (if _ then _ else _) P
  rw [if_neg (by simp)]
  show Goes n (M.resume _ (fB alt p2 o1) false) P
  unfold M.resume
  dsimp only [fB]
  rw [if_neg (by simp)]
  rw [← alt_go (pc := alt) (hd := hd) h1 (by omega)] at yes
  exact yes
theorem b_not {pc1 p2 k : Nat} {o1 : Bool} (h1 : code.getD (pc1 + 1) 0 = k)
    (yes : Goes n (S code text st (pc1 + 1 + k) p2 hd o1 fs (wt - 1) none seen) P) :
    Goes (n + 1) (S code text st pc pos hd o (fN pc1 p2 o1 :: fs) wt (some false) seen) P := by
  refine Goes.step ?_
  show Goes n (if _ then _ else _) P
  rw [if_neg (by simp)]
  show Goes n (M.resume _ (fN pc1 p2 o1) false) P
  unfold M.resume
  dsimp only [fN]
  rw [if_neg (by simp)]
  rw [← h1] at yes
  exact yes
theorem b_last {pc1 p2 : Nat} {o1 : Bool} (h : ¬ p2 < text.size) (yes : Goes n (S code text st pc1 p2 hd o1 fs (wt - 1) (some false) seen) P) :
    Goes (n + 1) (S code text st pc pos hd o (fS pc1 p2 o1 :: fs) wt (some false) seen) P := by
  refine Goes.step ?_
  show Goes n (if _ then _ else _) P
  rw [if_neg (by simp)]
  show Goes n (M.resume _ (fS pc1 p2 o1) false) P
  unfold M.resume
  dsimp only [fS]
  rw [if_neg (by simp), if_neg h]
  exact yes
theorem b_no {pc1 p2 : Nat} {o1 : Bool} (h : p2 < text.size) (hf : hasFirstSet (S code text st pc1 p2 hd o1 fs (wt - 1) none seen) = false) (hw : wt ≤ 100)
    (yes : Goes n (S code text (p2 + 1) pc1 (p2 + 1) (p2 + 1) false (fS pc1 (p2 + 1) false :: fs) (wt - 1 + 1) none seen) P) :
    Goes (n + 1) (S code text st pc pos hd o (fS pc1 p2 o1 :: fs) wt (some false) seen) P := by
  refine Goes.step ?_
  show Goes n (if _ then _ else _) P
  rw [if_neg (by simp)]
  show Goes n (M.resume _ (fS pc1 p2 o1) false) P
  unfold M.resume
  dsimp only [fS]
  rw [if_neg (by simp), if_pos h]
  unfold attemptFrom
  show Goes n (if (!hasFirstSet (S code text st pc1 p2 hd o1 fs (wt - 1) none seen)) = true then (S code text st pc1 p2 hd o1 fs (wt - 1) none seen).attemptAt (p2 + 1) false else _) P
  rw [hf]
  simp only [Bool.not_false, if_true]
  unfold attemptAt attempt
  rw [if_neg (by show ¬ wt - 1 + 1 + 0 > 16777216; omega)]
  exact yes
theorem b_end {b : Bool} (yes : P { S code text st pc pos hd o [] wt (some b) seen with outcome := some (if b then .matched else .failed) }) :
    Goes (n + 1) (S code text st pc pos hd o [] wt (some b) seen) P := by
  refine Goes.step ?_
  show Goes n (if _ then _ else _) P
  rw [if_neg (by simp)]
  exact Goes.here yes
end
def code1 : Array Nat := #[14, 4, 0, 1, 1, 6, 1, 16, 46, 1]
def code2 : Array Nat := #[14, 9, 4, 1, 2, 16, 10, 16, 13, 0, 7, 7, 16, 13, 16, 10, 15, 18, 5, 16, 10, 15, 13, 11, 16, 13, 5, 5, 0, 16, 10, 1, 15, 2, 0, 1]
def code3 : Array Nat := #[14, 14, 4, 1, 1, 9, 0, 4227896069, 939524097, 0, 0, 0, 0, 0, 0, 13, 11, 9, 0, 4227896069, 939524097, 0, 0, 0, 0, 0, 0, 1]

def Hit (a b : Nat) (m : M) : Prop := (∃ u, m.outcome = u ∧ u = some .matched) ∧ m.start = a ∧ m.handed = b
def Miss (m : M) : Prop := m.outcome = some .failed
abbrev S0 (code text : Array Nat) (body p : Nat) : M := S code text p body p p true [] 0 none (({} : Seen).add 14)

theorem search_eq1 {text : Array Nat} {p : Nat} : forSearch code1 text 0 p text.size false = if (decide (p > text.size) || decide (text.size - p < 1)) = true then { (S0 code1 text 5 p) with lastStart := 0, answer := some false } else (S0 code1 text 5 p).attemptFrom p true := rfl
theorem search_eq2 {text : Array Nat} {p : Nat} : forSearch code2 text 0 p text.size false = if (decide (p > text.size) || decide (text.size - p < 1)) = true then { (S0 code2 text 10 p) with lastStart := 0, answer := some false } else (S0 code2 text 10 p).attemptFrom p true := rfl
theorem search_eq3 {text : Array Nat} {p : Nat} : forSearch code3 text 0 p text.size false = if (decide (p > text.size) || decide (text.size - p < 1)) = true then { (S0 code3 text 15 p) with lastStart := 0, answer := some false } else (S0 code3 text 15 p).attemptFrom p true := rfl

theorem end_yes {code text : Array Nat} {st pc pos hd wt n a b : Nat} {o : Bool} {seen : Seen} (h1 : st = a) (h2 : hd = b) : Goes (n + 1) (S code text st pc pos hd o [] wt (some true) seen) (Hit a b) := b_end ⟨⟨_, rfl, rfl⟩, h1, h2⟩
theorem end_no {code text : Array Nat} {st pc pos hd wt n : Nat} {o : Bool} {seen : Seen} : Goes (n + 1) (S code text st pc pos hd o [] wt (some false) seen) Miss := b_end rfl

def hit1 (text : Array Nat) (i : Nat) : Prop := (i == 0 || text.getD (i - 1) 0 == 10) = true ∧ text.getD i 0 = 46
theorem p1_no {text : Array Nat} {s n : Nat} {o : Bool} {fs : List Sre.Frame} {seen : Seen} {P : M → Prop} (hno : ¬ (s < text.size ∧ hit1 text s))
    (h : ∀ pc pos seen', Goes n (S code1 text s pc pos s o fs 1 (some false) seen') P) : Goes (n + 2) (S code1 text s 5 s s o fs 1 none seen) P := by
  refine g_at (by decide) rfl rfl ?_ ?_
  · intro h1 seen'
    refine g_lit (c := 46) (by decide) rfl rfl ?_ ?_
    · intro h2 h3; exact absurd ⟨h2, h1, h3⟩ hno
    · intro _ seen2; exact h _ _ _
  · intro _ seen'
    exact Goes.mono (Nat.le_succ _) (h _ _ _)
theorem p1_from {text : Array Nat} : ∀ (d s : Nat) (o : Bool) (seen : Seen), s + d = text.size →
    (∃ a, s ≤ a ∧ a < text.size ∧ hit1 text a ∧ (∀ i, s ≤ i → i < a → ¬ hit1 text i) ∧ Goes (3 * d + 8) (S code1 text s 5 s s o [fS 5 s o] 1 none seen) (Hit a (a + 1))) ∨
    ((∀ i, s ≤ i → i < text.size → ¬ hit1 text i) ∧ Goes (3 * d + 8) (S code1 text s 5 s s o [fS 5 s o] 1 none seen) Miss) := by
  intro d
  induction d with
  | zero =>
    intro s o seen hs
    refine .inr ⟨fun i h1 h2 => by omega, ?_⟩
    refine p1_no (n := 6) (fun h => by omega) fun pc pos seen' => ?_
    exact b_last (by omega) end_no
  | succ d ih =>
    intro s o seen hs
    by_cases hh : hit1 text s
    · refine .inl ⟨s, Nat.le_refl _, by omega, hh, fun i h1 h2 => by omega, ?_⟩
      refine Goes.mono (n := 5) (by omega) ?_
      refine g_at (by decide) rfl rfl ?_ ?_
      · intro _ seen'
        refine g_lit (c := 46) (by decide) rfl rfl ?_ ?_
        · intro _ _ seen2
          refine g_ok (by decide) rfl fun seen3 => ?_
          exact b_yes1 (end_yes rfl rfl)
        · intro h; rcases h with h | h
          · omega
          · exact absurd hh.2 h
      · intro h; rw [hh.1] at h; cases h
    · have go : ∀ P : M → Prop, (∀ seen', Goes (3 * d + 8) (S code1 text (s + 1) 5 (s + 1) (s + 1) false [fS 5 (s + 1) false] 1 none seen') P) → Goes (3 * (d + 1) + 8) (S code1 text s 5 s s o [fS 5 s o] 1 none seen) P := by
        intro P h
        have e : 3 * (d + 1) + 8 = (3 * d + 8 + 1) + 2 := by omega
        rw [e]
        exact p1_no (fun h => hh h.2) fun pc pos seen' => b_no (by omega) rfl (by decide) (h _)
      have step : ∀ i j : Nat, s ≤ i → (∀ i, s + 1 ≤ i → i < j → ¬ hit1 text i) → i < j → ¬ hit1 text i := fun i j h1 h2 h3 => by
        rcases Nat.eq_or_lt_of_le h1 with e | e
        · subst e; exact hh
        · exact h2 i e h3
      by_cases ht : ∃ a, s + 1 ≤ a ∧ a < text.size ∧ hit1 text a ∧ (∀ i, s + 1 ≤ i → i < a → ¬ hit1 text i)
      · obtain ⟨a, h1, h2, h3, h4⟩ := ht
        refine .inl ⟨a, by omega, h2, h3, fun i hi hj => step i a hi h4 hj, go _ fun seen' => ?_⟩
        rcases ih (s + 1) false seen' (by omega) with ⟨a', g1, g2, g3, g4, g5⟩ | ⟨g1, _⟩
        · have : a' = a := by
            rcases Nat.lt_trichotomy a a' with e | e | e
            · exact absurd h3 (g4 a h1 e)
            · exact e.symm
            · exact absurd g3 (h4 a' g1 e)
          subst this; exact g5
        · exact absurd h3 (g1 a h1 h2)
      · refine .inr ⟨fun i hi hj => step i _ hi (fun k hk1 hk2 hk3 => ?_) hj, go _ fun seen' => ?_⟩
        · rcases ih (s + 1) false seen (by omega) with ⟨a', g1, g2, g3, g4, g5⟩ | ⟨g1, _⟩
          · exact ht ⟨a', g1, g2, g3, g4⟩
          · exact g1 k hk1 hk2 hk3
        · rcases ih (s + 1) false seen' (by omega) with ⟨a', g1, g2, g3, g4, g5⟩ | ⟨_, g2⟩
          · exact absurd ⟨a', g1, g2, g3, g4⟩ ht
          · exact g2

theorem admitted_spec {m : M} {f : Nat → Bool} (hf : ∀ i, i < m.lim → ∀ seen, ∃ seen', inSet m.code (m.text.getD i 0) m.code.size 5 true seen = .ok (f (m.text.getD i 0), seen')) : ∀ (fuel s : Nat) (seen : Seen), m.lim < s + fuel →
    (∃ a seen', s ≤ a ∧ a < m.lim ∧ f (m.text.getD a 0) = true ∧ (∀ i, s ≤ i → i < a → f (m.text.getD i 0) = false) ∧ admitted m fuel s seen = .ok (some a, seen')) ∨
    (∃ seen', (∀ i, s ≤ i → i < m.lim → f (m.text.getD i 0) = false) ∧ admitted m fuel s seen = .ok (none, seen')) := by
  intro fuel
  induction fuel with
  | zero => intro s seen h; exact .inr ⟨seen, fun i h1 h2 => by omega, rfl⟩
  | succ fuel ih =>
    intro s seen h
    unfold admitted
    by_cases hs : s ≥ m.lim
    · rw [if_pos hs]; exact .inr ⟨seen, fun i h1 h2 => by omega, rfl⟩
    · rw [if_neg hs]
      obtain ⟨s2, e2⟩ := hf s (by omega) seen
      rw [e2]
      cases hb : f (m.text.getD s 0)
      · dsimp only
        have step : ∀ i j : Nat, s ≤ i → (∀ i, s + 1 ≤ i → i < j → f (m.text.getD i 0) = false) → i < j → f (m.text.getD i 0) = false := fun i j h1 h2 h3 => by
          rcases Nat.eq_or_lt_of_le h1 with e | e
          · subst e; exact hb
          · exact h2 i e h3
        rcases ih (s + 1) s2 (by omega) with ⟨a, s3, h1, h2, h3, h4, h5⟩ | ⟨s3, h1, h2⟩
        · exact .inl ⟨a, s3, by omega, h2, h3, fun i hi hj => step i a hi h4 hj, h5⟩
        · exact .inr ⟨s3, fun i hi hj => step i _ hi h1 hj, h2⟩
      · exact .inl ⟨s, s2, Nat.le_refl _, by omega, hb, fun i h1 h2 => by omega, rfl⟩

theorem from_set {code text : Array Nat} {body p : Nat} {f : Nat → Bool} (hfs : hasFirstSet (S0 code text body p) = true)
    (hf : ∀ i, i < text.size → ∀ seen, ∃ seen', inSet code (text.getD i 0) code.size 5 true seen = .ok (f (text.getD i 0), seen')) :
    (∃ a seen', p ≤ a ∧ a < text.size ∧ f (text.getD a 0) = true ∧ (∀ i, p ≤ i → i < a → f (text.getD i 0) = false) ∧ (S0 code text body p).attemptFrom p true = S code text a body a a true [fS body a true] 1 none seen') ∨
    (∃ seen', (∀ i, p ≤ i → i < text.size → f (text.getD i 0) = false) ∧ (S0 code text body p).attemptFrom p true = S code text p body p p true [] 0 (some false) seen') := by
  unfold attemptFrom
  rw [hfs]
  rw [if_neg (by simp)]
  rcases admitted_spec (m := S0 code text body p) hf (text.size + 1 - p) p (({} : Seen).add 14) (by show text.size < _; omega) with ⟨a, s', h1, h2, h3, h4, h5⟩ | ⟨s', h1, h2⟩
  · refine .inl ⟨a, s', h1, h2, h3, h4, ?_⟩
    rw [show admitted _ _ _ _ = _ from h5]
    dsimp only
    unfold attemptAt attempt
    rw [if_neg (by show ¬ 0 + 1 + 0 > 16777216; omega)]
    rfl
  · refine .inr ⟨s', h1, ?_⟩
    rw [show admitted _ _ _ _ = _ from h2]
    rfl

def end2 (text : Array Nat) (a : Nat) : Nat := if text.getD a 0 = 13 ∧ a + 1 < text.size ∧ text.getD (a + 1) 0 = 10 then a + 2 else a + 1
theorem p2_at {text : Array Nat} {a : Nat} {seen : Seen} (ha : a < text.size) (hc : text.getD a 0 = 10 ∨ text.getD a 0 = 13) :
    Goes 20 (S code2 text a 10 a a true [fS 10 a true] 1 none seen) (Hit a (end2 text a)) := by
  refine g_branch (by decide) rfl rfl (by decide) fun seen' => ?_
  refine g_lit (c := 13) (by decide) rfl rfl ?_ ?_
  · intro _ h13 _
    refine g_lit (c := 10) (by decide) rfl rfl ?_ ?_
    · intro h1 h2 _
      refine g_jump (k := 18) (by decide) rfl rfl fun _ => ?_
      refine g_ok (by decide) rfl fun _ => ?_
      exact b_yes2 (b_yes1 (end_yes rfl (by rw [end2, if_pos ⟨h13, h1, h2⟩])))
    · intro hno _
      have e : end2 text a = a + 1 := by
        rw [end2, if_neg]
        rintro ⟨_, h2, h3⟩
        rcases hno with h | h
        · omega
        · exact h h3
      refine b_branch (alt := 11) rfl (by decide) ?_
      refine g_lit (c := 10) (by decide) rfl rfl (fun _ h => by rw [h13] at h; cases h) fun _ _ => ?_
      refine b_branch (alt := 18) rfl (by decide) ?_
      refine g_lit (c := 13) (by decide) rfl rfl ?_ (fun h => by rcases h with h | h; · omega
                                                                 · exact absurd h13 h)
      intro _ _ _
      refine g_not (by decide) rfl rfl (by decide) fun _ => ?_
      refine g_lit (c := 10) (by decide) rfl rfl (fun h1 h2 => by
        rcases hno with h | h
        · omega
        · exact absurd h2 h) fun _ _ => ?_
      refine b_not (k := 5) rfl ?_
      refine g_jump (k := 2) (by decide) rfl rfl fun _ => ?_
      refine g_ok (by decide) rfl fun _ => ?_
      exact b_yes2 (b_yes1 (end_yes rfl e.symm))
  · intro hno _
    have h10 : text.getD a 0 = 10 := by
      rcases hc with h | h
      · exact h
      · rcases hno with h2 | h2
        · omega
        · exact absurd h h2
    refine b_branch (alt := 11) rfl (by decide) ?_
    refine g_lit (c := 10) (by decide) rfl rfl ?_ (fun h => by rcases h with h | h; · omega
                                                               · exact absurd h10 h)
    intro _ _ _
    refine g_jump (k := 13) (by decide) rfl rfl fun _ => ?_
    refine g_ok (by decide) rfl fun _ => ?_
    exact b_yes2 (b_yes1 (end_yes rfl (by rw [end2, if_neg]; rintro ⟨h, _⟩; rw [h10] at h; cases h)))

theorem set2 (c : Nat) (seen : Seen) : ∃ seen', inSet code2 c code2.size 5 true seen = .ok (c == 10 || c == 13, seen') := by
  show ∃ seen', inSet code2 c 36 5 true seen = _
  unfold inSet
  show ∃ seen', (if (c == 10) = true then _ else _) = _
  by_cases h : (c == 10) = true
  · rw [if_pos h, h]; exact ⟨_, rfl⟩
  · rw [if_neg h]
    unfold inSet
    show ∃ seen', (if (c == 13) = true then _ else _) = _
    have h' : (c == 10) = false := by simpa using h
    by_cases h2 : (c == 13) = true
    · rw [if_pos h2, h2, h']; exact ⟨_, rfl⟩
    · rw [if_neg h2]
      have h2' : (c == 13) = false := by simpa using h2
      rw [h', h2']
      unfold inSet
      exact ⟨_, rfl⟩
def sp3 (c : Nat) : Bool := decide (c < 256) && (code3.getD (5 + (1 + c / 32)) 0).testBit (c % 32)
theorem set3 (c : Nat) (seen : Seen) : ∃ seen', inSet code3 c code3.size 5 true seen = .ok (sp3 c, seen') := by
  show ∃ seen', inSet code3 c 28 5 true seen = _
  unfold inSet
  show ∃ seen', (if sp3 c = true then _ else _) = _
  by_cases h : sp3 c = true
  · rw [if_pos h, h]; exact ⟨_, rfl⟩
  · rw [if_neg h]
    have h' : sp3 c = false := by simpa using h
    rw [h']
    unfold inSet
    exact ⟨_, rfl⟩
theorem set3b (c : Nat) (seen : Seen) (hc : sp3 c = true) : ∃ seen', inSet code3 c code3.size 17 true seen = .ok (true, seen') := by
  show ∃ seen', inSet code3 c 28 17 true seen = _
  unfold inSet
  show ∃ seen', (if (decide (c < 256) && (code3.getD (17 + (1 + c / 32)) 0).testBit (c % 32)) = true then _ else _) = _
  have h : (decide (c < 256) && (code3.getD (17 + (1 + c / 32)) 0).testBit (c % 32)) = true := by
    unfold sp3 at hc
    rw [Bool.and_eq_true] at hc ⊢
    refine ⟨hc.1, ?_⟩
    have hl : c / 32 < 8 := by have := of_decide_eq_true hc.1; omega
    have e : ∀ k, k < 8 → code3.getD (17 + (1 + k)) 0 = code3.getD (5 + (1 + k)) 0 := by decide
    rw [e _ hl]; exact hc.2
  rw [if_pos h]; exact ⟨_, rfl⟩
theorem p3_at {text : Array Nat} {a : Nat} {seen : Seen} (ha : a < text.size) (hc : sp3 (text.getD a 0) = true) :
    Goes 20 (S code3 text a 15 a a true [fS 15 a true] 1 none seen) (Hit a (a + 1)) := by
  refine g_in (k := 11) (by decide) rfl rfl (fun s => set3b _ s hc) ha fun _ => ?_
  refine g_ok (by decide) rfl fun _ => ?_
  exact b_yes1 (end_yes rfl rfl)

def Finds (code text : Array Nat) (out : Nat → List Nat) (rp : List Nat) (p : Nat) : Prop :=
  (Goes (4 * text.size + 40) (forSearch code text 0 p text.size false) Miss ∧ out p = text.toList.drop p) ∨
  ∃ a b, Goes (4 * text.size + 40) (forSearch code text 0 p text.size false) (Hit a b) ∧ p ≤ a ∧ a < b ∧ b ≤ text.size ∧ out p = (text.toList.drop p).take (a - p) ++ rp ++ out b

theorem drop_at {text : Array Nat} {i : Nat} (hi : i < text.size) : text.toList.drop i = text.getD i 0 :: text.toList.drop (i + 1) := by
  rw [List.drop_eq_getElem_cons (by simpa using hi)]
  simp [hi]
theorem drop_end {text : Array Nat} {i : Nat} (hi : text.size ≤ i) : text.toList.drop i = [] := List.drop_eq_nil_iff.mpr (by simpa using hi)
theorem skip {text : Array Nat} {out : Nat → List Nat} {p a : Nat} (hp : p ≤ a) (ha : a ≤ text.size) (h : ∀ i, p ≤ i → i < a → out i = text.getD i 0 :: out (i + 1)) :
    out p = (text.toList.drop p).take (a - p) ++ out a := by
  obtain ⟨d, rfl⟩ := Nat.exists_eq_add_of_le hp
  clear hp
  rw [Nat.add_sub_cancel_left]
  induction d generalizing p with
  | zero => simp
  | succ d ih =>
    rw [h p (Nat.le_refl _) (by omega), drop_at (by omega), List.take_succ_cons, List.cons_append]
    congr 1
    have := ih (p := p + 1) (by omega) (fun i h1 h2 => h i (by omega) (by omega))
    rw [this]
    congr 1
    congr 1
    omega
theorem skip_all {text : Array Nat} {out : Nat → List Nat} {p : Nat} (hp : p ≤ text.size) (h : ∀ i, p ≤ i → i < text.size → out i = text.getD i 0 :: out (i + 1)) (he : out text.size = []) :
    out p = text.toList.drop p := by
  rw [skip hp (Nat.le_refl _) h, he, List.append_nil]
  exact List.take_of_length_le (by simp)

theorem room_no {text : Array Nat} {p : Nat} {code : Array Nat} {body n : Nat} (hc : (decide (p > text.size) || decide (text.size - p < 1)) = true) :
    Goes (n + 1) (if (decide (p > text.size) || decide (text.size - p < 1)) = true then { (S0 code text body p) with lastStart := 0, answer := some false } else (S0 code text body p).attemptFrom p true) Miss := by
  rw [if_pos hc]
  exact Goes.step (Goes.here rfl)

theorem finds1 {text : Array Nat} {out : Nat → List Nat} {rp : List Nat} {p : Nat} (hp : p ≤ text.size) (he : out text.size = [])
    (hno : ∀ i, i < text.size → ¬ hit1 text i → out i = text.getD i 0 :: out (i + 1)) (hyes : ∀ i, i < text.size → hit1 text i → out i = rp ++ out (i + 1)) : Finds code1 text out rp p := by
  unfold Finds
  rw [search_eq1]
  by_cases hc : (decide (p > text.size) || decide (text.size - p < 1)) = true
  · refine .inl ⟨room_no hc, ?_⟩
    rw [Bool.or_eq_true, decide_eq_true_eq, decide_eq_true_eq] at hc
    have : p = text.size := by omega
    subst this
    rw [he, drop_end (Nat.le_refl _)]
  · rw [if_neg hc]
    have ea : (S0 code1 text 5 p).attemptFrom p true = S code1 text p 5 p p true [fS 5 p true] 1 none (({} : Seen).add 14) := rfl
    rw [ea]
    rcases p1_from (text := text) (text.size - p) p true (({} : Seen).add 14) (by omega) with ⟨a, h1, h2, h3, h4, h5⟩ | ⟨h1, h2⟩
    · refine .inr ⟨a, a + 1, Goes.mono (by omega) h5, h1, Nat.lt_succ_self _, h2, ?_⟩
      rw [skip h1 (Nat.le_of_lt h2) fun i hi hj => hno i (by omega) (h4 i hi hj), hyes a h2 h3, List.append_assoc]
    · exact .inl ⟨Goes.mono (by omega) h2, skip_all hp (fun i hi hj => hno i hj (h1 i hi hj)) he⟩

theorem end2_fit {text : Array Nat} {a : Nat} (h : a < text.size) : a < end2 text a ∧ end2 text a ≤ text.size := by
  unfold end2
  by_cases hc : text.getD a 0 = 13 ∧ a + 1 < text.size ∧ text.getD (a + 1) 0 = 10
  · rw [if_pos hc]; exact ⟨by omega, hc.2.1⟩
  · rw [if_neg hc]; exact ⟨by omega, h⟩
theorem finds2 {text : Array Nat} {out : Nat → List Nat} {rp : List Nat} {p : Nat} (hp : p ≤ text.size) (he : out text.size = [])
    (hno : ∀ i, i < text.size → (text.getD i 0 == 10 || text.getD i 0 == 13) = false → out i = text.getD i 0 :: out (i + 1))
    (hyes : ∀ i, i < text.size → (text.getD i 0 == 10 || text.getD i 0 == 13) = true → out i = rp ++ out (end2 text i)) : Finds code2 text out rp p := by
  unfold Finds
  rw [search_eq2]
  by_cases hc : (decide (p > text.size) || decide (text.size - p < 1)) = true
  · refine .inl ⟨room_no hc, ?_⟩
    rw [Bool.or_eq_true, decide_eq_true_eq, decide_eq_true_eq] at hc
    have : p = text.size := by omega
    subst this
    rw [he, drop_end (Nat.le_refl _)]
  · rw [if_neg hc]
    rcases from_set (p := p) (code := code2) (body := 10) (f := fun c => c == 10 || c == 13) rfl (fun i _ seen => set2 (text.getD i 0) seen) with ⟨a, s', h1, h2, h3, h4, h5⟩ | ⟨s', h1, h2⟩
    · rw [h5]
      have h3' : text.getD a 0 = 10 ∨ text.getD a 0 = 13 := by simpa only [Bool.or_eq_true, beq_iff_eq] using h3
      refine .inr ⟨a, end2 text a, Goes.mono (by omega) (p2_at h2 h3'), h1, ?_, ?_, ?_⟩
      · exact (end2_fit h2).1
      · exact (end2_fit h2).2
      · rw [skip h1 (Nat.le_of_lt h2) fun i hi hj => hno i (by omega) (h4 i hi hj), hyes a h2 h3, List.append_assoc]
    · rw [h2]
      exact .inl ⟨Goes.mono (Nat.le_add_left 1 _) end_no, skip_all hp (fun i hi hj => hno i hj (h1 i hi hj)) he⟩

theorem finds3 {text : Array Nat} : ((∃ a b, Goes (4 * text.size + 40) (forSearch code3 text 0 0 text.size false) (Hit a b)) ∧ ∃ i, i < text.size ∧ sp3 (text.getD i 0) = true) ∨
    (Goes (4 * text.size + 40) (forSearch code3 text 0 0 text.size false) Miss ∧ ∀ i, i < text.size → sp3 (text.getD i 0) = false) := by
  rw [search_eq3]
  by_cases hc : (decide (0 > text.size) || decide (text.size - 0 < 1)) = true
  · refine .inr ⟨room_no hc, ?_⟩
    rw [Bool.or_eq_true, decide_eq_true_eq, decide_eq_true_eq] at hc
    intro i hi; omega
  · rw [if_neg hc]
    rcases from_set (p := 0) (code := code3) (body := 15) (f := sp3) rfl (fun i _ seen => set3 (text.getD i 0) seen) with ⟨a, s', h1, h2, h3, h4, h5⟩ | ⟨s', h1, h2⟩
    · rw [h5]
      exact .inl ⟨⟨a, a + 1, Goes.mono (by omega) (p3_at h2 h3)⟩, a, h2, h3⟩
    · rw [h2]
      exact .inr ⟨Goes.mono (Nat.le_add_left 1 _) end_no, fun i hi => h1 i (Nat.zero_le _) hi⟩

/-- the machine driven to its end -/
theorem drive_end {M : Model} {A : Around} {E : Value → Shared → Prop} {s : Shared} {Q : Sre.M → Shared → Prop} : ∀ (t k : Nat) (m : Sre.M), k ≤ 4 * t → 0 < t → (iterS k m).outcome.isSome = true → Q (iterS k m) s → wpAny M A (Builtin.Re.reDrive t m) Q E s := by
  intro t
  induction t with
  | zero => intro k m h h0; omega
  | succ t ih =>
    intro k m hk _ ho hq
    unfold Builtin.Re.reDrive
    rw [show Builtin.Re.reTurnSteps = 4 from rfl]
    rw [runFor_iter]
    by_cases h4 : (iterS 4 m).outcome.isSome = true
    · rw [if_pos h4]
      have e : iterS k m = iterS 4 m := by
        rcases Nat.le_total k 4 with h | h
        · obtain ⟨d, e⟩ := Nat.exists_eq_add_of_le h
          rw [e, iter_add, iter_fix ho]
        · obtain ⟨d, e⟩ := Nat.exists_eq_add_of_le h
          rw [e, iter_add, iter_fix h4]
      rw [e] at hq
      exact wpAny_pure hq
    · rw [if_neg h4]
      have hk4 : 4 < k := by
        apply Nat.lt_of_not_le
        intro h
        obtain ⟨d, e⟩ := Nat.exists_eq_add_of_le h
        rw [e, iter_add, iter_fix ho] at h4
        exact h4 ho
      obtain ⟨d, rfl⟩ := Nat.exists_eq_add_of_le (Nat.le_of_lt hk4)
      rw [iter_add] at ho hq
      refine wpAny_bind (wpAny_rule ?_)
      exact ih d _ (by omega) (by omega) ho hq

theorem rules_pass {M : Model} {A : Around} {E : Value → Shared → Prop} {s : Shared} {Q : PUnit → Shared → Prop} {g : Nat → PUnit → Sem (ForInStep PUnit)} (h : Q ⟨⟩ s)
    (hb : ∀ i (Q' : ForInStep PUnit → Shared → Prop), Q' (.yield ⟨⟩) s → wpAny M A (g i ⟨⟩) Q' E s) : ∀ (l : List Nat), wpAny M A (forIn l PUnit.unit g) Q E s
  | [] => wpAny_pure h
  | i :: r => by
    rw [List.forIn_cons]
    exact wpAny_bind (hb i _ (rules_pass h hb r))

theorem run_end {M : Model} {A : Around} {E : Value → Shared → Prop} {s : Shared} {Q : Option Sre.M → Shared → Prop} {m : Sre.M} {n : Nat} {P : Sre.M → Prop} (hg : Goes n m P) (hn : n ≤ 1000000)
    (hP : ∀ m', P m' → (m'.outcome = some .matched ∧ Q (some m') s) ∨ (m'.outcome = some .failed ∧ Q none s)) : wpAny M A (Builtin.Re.reRunToEnd m) Q E s := by
  obtain ⟨k, hk, hp⟩ := hg
  unfold Builtin.Re.reRunToEnd
  have hb : (1000000 : Nat) ≤ 4 * 2 ^ 64 := by decide
  have h0 : (0 : Nat) < 2 ^ 64 := by decide
  generalize (2 : Nat) ^ 64 = t at *
  rcases hP _ hp with ⟨ho, hq⟩ | ⟨ho, hq⟩
  all_goals
    refine wpAny_bind (drive_end t k m (by omega) h0 (by rw [ho]; rfl) ?_)
    refine wpAny_bind (rules_pass ?_ (fun i Q' h' => ?_) _)
    rotate_left
    · by_cases h9 : (iterS k m).seen.has i = true
      · rw [if_pos h9]; exact wpAny_bind (wpAny_rule (wpAny_pure h'))
      · rw [if_neg h9]; exact wpAny_pure h'
    rw [ho]
    exact wpAny_pure hq
end Mine
end

section
open PySem PySem.W PyProof.Rows PySem.Spec
set_option Elab.async false
set_option maxRecDepth 100000
namespace Mine
open PySem.Calls
open Builtin.Re

theorem pa_pat : PlainAttrs "re.Pattern" :=
  ⟨⟨"object.__getattribute__", by rw [typeLookup_type, builtinLookup_eq_fast]; kernel_rfl, by decide +kernel⟩, by rw [typeLookup_type, builtinLookup_eq_fast]; kernel_rfl⟩
theorem slot_sub : Slot "re.Pattern" "sub" "re.Pattern.sub" :=
  .of (owner := "re.Pattern") (n := "sub") (by rw [typeLookup_type, builtinLookup_eq_fast]; kernel_rfl) (by decide +kernel) (by decide +kernel) (by decide +kernel)
    (by first | exact .inl (by decide +kernel) | exact .inr (by decide +kernel)) (by rw [isSubtype_type]; kernel_rfl)
theorem type_sub : typeOf (.builtin "re.Pattern.sub") = pure (.type "method_descriptor") := by show builtinType _ = _; rw [builtinType_eq_fast]; kernel_rfl
theorem entry_sub : entryFor table "re.Pattern.sub" = some Builtin.«re.Pattern.sub» := entryFor_of_tree (by kernel_rfl)
theorem entry_loop : entryFor table "re.Pattern.sub.loop" = some Builtin.«re.Pattern.sub.loop» := entryFor_of_tree (by kernel_rfl)
theorem plain_loop : plainId "re.Pattern.sub.loop" = true := by decide +kernel
theorem slot_search : Slot "re.Pattern" "search" "re.Pattern.search" :=
  .of (owner := "re.Pattern") (n := "search") (by rw [typeLookup_type, builtinLookup_eq_fast]; kernel_rfl) (by decide +kernel) (by decide +kernel) (by decide +kernel)
    (by first | exact .inl (by decide +kernel) | exact .inr (by decide +kernel)) (by rw [isSubtype_type]; kernel_rfl)
theorem type_search : typeOf (.builtin "re.Pattern.search") = pure (.type "method_descriptor") := by show builtinType _ = _; rw [builtinType_eq_fast]; kernel_rfl
theorem entry_search : entryFor table "re.Pattern.search" = some Builtin.«re.Pattern.search» := entryFor_of_tree (by kernel_rfl)
theorem args_sub (a b c : Value) : argsOk "re.Pattern.sub" ⟨[a, b, c], []⟩ := by
  unfold argsOk; kernel_rfl
theorem args_search (a b : Value) : argsOk "re.Pattern.search" ⟨[a, b], []⟩ := by
  unfold argsOk; kernel_rfl

theorem reNamed_sub (rp : Value) (xv : Value) : reNamed "re.Pattern.sub" "sub" ["repl", "string", "count"] 2 [rp, xv] [] = pure [some rp, some xv, none] := by
  rfl
structure Pat (h : Heap) (P : Addr) (code : Array Nat) : Prop where
  ex : ∃ (fs : Array Value) (T : Addr) (ws : Array Value) (n : Nat), h.get? P = some { cls := .type "re.Pattern", data := .fields fs } ∧ fs.getD 5 .none = .ref T ∧ reRawNat (fs.getD 2 .none) = 0 ∧ reRawNat (fs.getD 6 .none) = 0 ∧
    h.get? T = some { cls := .type "tuple", data := .seq ws n } ∧ (ws.map reRawOf).map (·.toNat) = code
theorem Pat.keeps {h h' : Heap} {P : Addr} {code : Array Nat} (x : Pat h P code) (hk : ∀ b o, h.get? b = some o → h'.get? b = some o) : Pat h' P code := by
  obtain ⟨fs, T, ws, n, h1, h2, h3, h4, h5, h6⟩ := x.ex
  exact ⟨fs, T, ws, n, hk _ _ h1, h2, h3, h4, hk _ _ h5, h6⟩

section
variable {prog : Program} {w : World} {A : Around} {E : Value → Shared → Prop} {s : Shared} {P : Addr} {code : Array Nat} {x rp : Str} {tx tr : Tok}
theorem whole_target {Q : ReTarget → Shared → Prop} (X : Pat s.heap P code) (h : Q { pattern := .ref P, string := .str x tx, code, text := x.cps, kind := 0, groups := 0, pos := 0, lim := x.cps.size } s) :
    wpAny (model prog w) A (reWholeTarget (.ref P) (.str x tx)) Q E s := by
  obtain ⟨fs, T, ws, n, h1, h2, h3, h4, h5, h6⟩ := X.ex
  unfold reWholeTarget
  refine wpAny_bind (wpAny_fieldsOf h1 rfl ?_)
  refine wpAny_bind (wpAny_of_eq (a := (x.cps, 0)) rfl ?_)
  dsimp only
  rw [h4, h2, h3]
  simp only [reNoCollectionInside, reRawItems]
  rw [if_neg (by decide), if_neg (by decide), if_neg (by decide)]
  refine wpAny_bind (wpAny_pure ?_)
  refine wpAny_bind (wpAny_bind (wpAny_seqItems h5 rfl (wpAny_pure ?_)))
  refine wpAny_pure ?_
  rw [← h6] at h
  exact h
theorem str_no_call : typeLookup (.type "str") "__call__" = pure none := by rw [typeLookup_type, builtinLookup_eq_fast]; kernel_rfl

theorem push_piece {hb : Heap} {D : Addr} {items : Array Value} {k : Nat} {v : Value} {Q : Unit → Shared → Prop} (hD : hb.get? D = none) (hk : ∀ b o, hb.get? b = some o → s.heap.get? b = some o) (hDl : s.heap.get? D = some (listOf items k)) (hsz : items.size ≤ 1000000)
    (h : ∀ h' k', (∀ b o, hb.get? b = some o → h'.get? b = some o) → h'.get? D = some (listOf (items.push v) k') → Q () { s with heap := h' }) : wpAny (model prog w) A (updateSeq D fun xs => xs.push v) Q E s := by
  refine wpAny_updateSeq hDl rfl (h _ _ (fun b o e => ?_) (Heap.get?_update_self (Obj.mapSeq fun xs => xs.push v) hDl rfl)) (by rw [sizeLine_eq]; omega) (by rw [sizeLine_eq, Array.size_push]; omega)
  have hne : b ≠ D := fun q => by rw [q, hD] at e; cases e
  exact ((Heap.SameBut.update s.heap D (Obj.mapSeq fun xs => xs.push v)).2 b hne).trans (hk b o e)
theorem join_codes : ∀ (ys : List Str), (Txt.join ⟨#[]⟩ ys).cps.toList = ys.flatMap (·.cps.toList) := by
  intro ys
  unfold Txt.join
  rw [StrLaws.glued_eq_join]
  induction ys with
  | nil => rfl
  | cons y r ih => rw [PyProof.Rows.join_nil_cons, Str.cps_append, Array.toList_append, ih, List.flatMap_cons]

/-- what the loop of sub hands back -/
def subR (hb : Heap) (s : Shared) (R : Result → Shared → Prop) (out : List Nat) : Prop :=
  ∀ (h' : Heap) (tk t : Nat) (y : Str), y.cps.toList = out → (∀ b o, hb.get? b = some o → h'.get? b = some o) → R (.ok (.ret (.str y t))) { s with heap := h', toks := tk }

theorem sub_loop {R : Result → Shared → Prop} {hb : Heap} {D : Addr} {out : Nat → List Nat} (X : Pat hb P code) (hD : hb.get? D = none) (hx : x.length ≤ 60000) (hr : rp.length ≤ 2)
    (hf : ∀ p, p ≤ x.cps.size → Finds code x.cps out rp.cps.toList p) (hR : subR hb s R (out 0)) :
    ∀ (d p : Nat) (h : Heap) (tk k : Nat) (c : Int) (items : Array Value) (ys : List Str), p + d = x.cps.size → (∀ b o, hb.get? b = some o → h.get? b = some o) → h.get? D = some (listOf items k) → StrsAre items.toList ys →
      (ys.map (·.length)).sum + ys.length ≤ 4 * p → ys.flatMap (·.cps.toList) ++ out p = out 0 →
      codeAny (model prog w) A (.builtin "re.Pattern.sub.loop" ⟨[.ref P, .str x tx, .str rp tr, rawInt 0, rawInt 0, rawInt c, rawInt p, rawInt p, .bool false, .ref D, .bool false], []⟩) R { s with heap := h, toks := tk } := by
  intro d
  induction d using Nat.strongRecOn with
  | ind d ih =>
    intro p h tk k c items ys hp hk hDl hi hw ho
    refine codeAny_builtin entry_loop ?_
    rw [Around.under_plainId plain_loop]
    unfold Builtin.«re.Pattern.sub.loop»
    dsimp only [rawInt]
    refine wpAny_bind (whole_target (X.keeps hk) ?_)
    dsimp only
    rw [if_pos (by decide)]
    refine wpAny_bind (wpAny_of_eq (a := ()) rfl ?_)
    rw [if_neg (by simp)]
    have hpl : p ≤ x.cps.size := by omega
    have hxs : x.cps.size ≤ 60000 := hx
    have hil : items.size ≤ 4 * p := by
      have := hi.len_eq
      rw [Array.length_toList] at this
      omega
    simp only [reNextFound, Int.toNat_natCast]
    rcases hf p hpl with ⟨hg, he⟩ | ⟨a, b, hg, h1, h2, h3, he⟩
    · refine wpAny_bind (run_end hg (by omega) fun m' hm => .inr ⟨hm, ?_⟩)
      dsimp only
      have fin : ∀ (h2 : Heap) (tk2 k2 : Nat) (items2 : Array Value) (ys2 : List Str), (∀ b o, hb.get? b = some o → h2.get? b = some o) → h2.get? D = some (listOf items2 k2) → StrsAre items2.toList ys2 → (ys2.map (·.length)).sum + ys2.length ≤ 1000000 → ys2.flatMap (·.cps.toList) = out 0 →
          wpAny (model prog w) A.in1 (do
            let joiner ← reSlice x.cps 0 0 0
            let __do_lift ← seqItems? (Value.ref D)
            if (__do_lift.getD #[]).isEmpty = true then do
                let text ← pure joiner
                if false = true then do
                    let __do_lift ←
                      holding [text] do
                          let __do_lift ← mkInt c
                          newTuple [text, __do_lift]
                    ret __do_lift
                  else ret text
              else do
                let text ←
                  call (Value.builtin (if (0 == 0) = true then "str.join" else "bytes.join")) [joiner, Value.ref D]
                if false = true then do
                    let __do_lift ←
                      holding [text] do
                          let __do_lift ← mkInt c
                          newTuple [text, __do_lift]
                    ret __do_lift
                  else ret text) (fun fin s' => match fin with | .done f => R (.ok f) s' | .again c' => c'.quiet = true ∧ codeAny (model prog w) A c' R s') (fun e s' => R (.error e) s') { s with heap := h2, toks := tk2 } := by
        intro h2 tk2 k2 items2 ys2 hk2 hDl2 hi2 hw2 ho2
        have e0 : x.cps.extract 0 0 = #[] := by simp
        unfold reSlice
        rw [if_pos (by decide), e0]
        refine wpAny_bind (wpAny_mkStr ?_ (by show (0 : Nat) ≤ _; exact Nat.zero_le _))
        refine wpAny_bind (wpAny_seqItems (s := { s with heap := h2, toks := tk2 + 1 }) hDl2 rfl ?_)
        by_cases hem : items2.isEmpty = true
        · rw [Option.getD_some, if_pos hem]
          refine wpAny_bind (wpAny_pure ?_)
          rw [if_neg (by decide)]
          refine wpAny_pure (hR h2 (tk2 + 1) tk2 ⟨#[]⟩ ?_ hk2)
          have hl := hi2.len_eq
          rw [Array.length_toList, Array.isEmpty_iff_size_eq_zero.mp hem] at hl
          rw [← ho2, List.eq_nil_of_length_eq_zero hl.symm]
          rfl
        · rw [Option.getD_some, if_neg hem]
          rw [if_pos (by decide)]
          refine wpAny_bind (join_listW (s := { s with heap := h2, toks := tk2 + 1 }) (x := ⟨#[]⟩) ⟨_, hDl2, rfl, _, rfl⟩ hi2 (Nat.zero_le _) (by omega) fun t' k' => ?_)
          rw [if_neg (by decide)]
          exact wpAny_pure (hR h2 k' t' _ (by rw [join_codes, ho2]) hk2)
      by_cases hlt : p < x.cps.size
      · rw [if_pos hlt]
        unfold reSlice
        rw [if_pos (by decide)]
        have hsl : (⟨x.cps.extract p x.cps.size⟩ : Str).length ≤ 60000 := by
          show (x.cps.extract p x.cps.size).size ≤ _
          rw [Array.size_extract]; omega
        refine wpAny_bind (wpAny_mkStr ?_ (by rw [sizeLine_eq]; omega))
        refine wpAny_bind (push_piece (s := { s with heap := h, toks := tk + 1 }) hD hk hDl (by omega) fun h' k' hk' hDl' => ?_)
        refine fin h' (tk + 1) _ _ (ys ++ [⟨x.cps.extract p x.cps.size⟩]) hk' hDl' ?_ ?_ ?_
        · rw [Array.toList_push]; exact hi.append' (.cons _ _ .nil)
        · simp only [List.map_append, List.sum_append, List.length_append, List.map_cons, List.map_nil, List.sum_cons, List.sum_nil, List.length_cons, List.length_nil]; omega
        · rw [List.flatMap_append, ← ho, he]
          simp
          exact List.take_of_length_le (by simp)
      · rw [if_neg hlt]
        refine fin h tk _ _ ys hk hDl hi (by omega) ?_
        rw [← ho, he, drop_end (Nat.le_of_not_lt hlt), List.append_nil]
    · refine wpAny_bind (run_end hg (by omega) fun m' hm => .inl ⟨?_, ?_⟩)
      · obtain ⟨⟨u, e1, e2⟩, _⟩ := hm; rw [e1, e2]
      obtain ⟨_, hms, hmh⟩ := hm
      dsimp only
      rw [hms, hmh]
      have fin : ∀ (h2 : Heap) (tk2 k2 : Nat) (items2 : Array Value) (ys2 : List Str), (∀ b o, hb.get? b = some o → h2.get? b = some o) → h2.get? D = some (listOf items2 k2) → StrsAre items2.toList ys2 → (ys2.map (·.length)).sum + ys2.length ≤ 4 * p + (a - p) + 1 → ys2.flatMap (·.cps.toList) ++ rp.cps.toList ++ out b = out 0 →
          wpAny (model prog w) A.in1 (do
                updateSeq D fun x => x.push (Value.str rp tr)
                again
                    (Code.builtin "re.Pattern.sub.loop"
                      {
                        pos :=
                          [Value.ref P, Value.str x tx, Value.str rp tr, Value.int 0 0, Value.int 0 0,
                            Value.int (c + 1) 0, Value.int (↑b) 0, Value.int (↑b) 0,
                            Value.bool (b == a), Value.ref D, Value.bool false] })) (fun fin s' => match fin with | .done f => R (.ok f) s' | .again c' => c'.quiet = true ∧ codeAny (model prog w) A c' R s') (fun e s' => R (.error e) s') { s with heap := h2, toks := tk2 } := by
        intro h2' tk2 k2 items2 ys2 hk2 hDl2 hi2 hw2 ho2
        have hil2 : items2.size ≤ 1000000 := by
          have := hi2.len_eq
          rw [Array.length_toList] at this
          omega
        refine wpAny_bind (push_piece (s := { s with heap := h2', toks := tk2 }) hD hk2 hDl2 hil2 fun h' k' hk' hDl' => ?_)
        rw [show (b == a) = false from by simp; omega]
        refine wpAny_pure ⟨plainId_quiet plain_loop _, ?_⟩
        refine ih (x.cps.size - b) (by omega) b h' tk2 _ (c + 1) _ (ys2 ++ [rp]) (by omega) hk' hDl' ?_ ?_ ?_
        · rw [Array.toList_push]; exact hi2.append' (.cons _ _ .nil)
        · simp only [List.map_append, List.sum_append, List.length_append, List.map_cons, List.map_nil, List.sum_cons, List.sum_nil, List.length_cons, List.length_nil]; omega
        · rw [List.flatMap_append, ← ho2]
          simp
      by_cases hlt : p < a
      · rw [if_pos hlt]
        unfold reSlice
        rw [if_pos (by decide)]
        have hsl : (⟨x.cps.extract p a⟩ : Str).length = a - p := by
          show (x.cps.extract p a).size = _
          rw [Array.size_extract]; omega
        refine wpAny_bind (wpAny_mkStr ?_ (by rw [sizeLine_eq]; omega))
        refine wpAny_bind (push_piece (s := { s with heap := h, toks := tk + 1 }) hD hk hDl (by omega) fun h' k' hk' hDl' => ?_)
        rw [if_pos (by decide)]
        refine wpAny_bind (wpAny_pure ?_)
        rw [if_pos (by rfl)]
        refine fin h' (tk + 1) _ _ (ys ++ [⟨x.cps.extract p a⟩]) hk' hDl' ?_ ?_ ?_
        · rw [Array.toList_push]; exact hi.append' (.cons _ _ .nil)
        · simp only [List.map_append, List.sum_append, List.length_append, List.map_cons, List.map_nil, List.sum_cons, List.sum_nil, List.length_cons, List.length_nil]; omega
        · rw [List.flatMap_append, ← ho, he]
          simp [List.take_drop]
      · rw [if_neg hlt]
        have epa : p = a := by omega
        rw [if_pos (by decide)]
        refine wpAny_bind (wpAny_pure ?_)
        rw [if_pos (by rfl)]
        refine fin h tk _ _ ys hk hDl hi (by omega) ?_
        rw [← ho, he, epa]
        simp

theorem sub_call {Q : Value → Shared → Prop} {out : Nat → List Nat} (X : Pat s.heap P code) (hx : x.length ≤ 60000) (hr : rp.length ≤ 2) (hlit : rp.cps.contains 92 = false)
    (hf : ∀ p, p ≤ x.cps.size → Finds code x.cps out rp.cps.toList p)
    (h : ∀ (h' : Heap) (tk t : Nat) (y : Str), y.cps.toList = out 0 → (∀ b o, s.heap.get? b = some o → h'.get? b = some o) → Q (.str y t) { s with heap := h', toks := tk }) :
    wpAny (model prog w) A (call (.builtin "re.Pattern.sub") [.ref P, .str rp tr, .str x tx]) Q E s := by
  obtain ⟨fs, T, ws, n, h1, _⟩ := X.ex
  have hT : s.TypeIs (.ref P) "re.Pattern" := ⟨_, h1, rfl⟩
  refine wpAny_call (codeAny_call_builtin slot_sub.plain entry_sub (slot_sub.check _ _ _ _ _ _ _ _ hT (args_sub _ _ _) ?_))
  unfold Builtin.«re.Pattern.sub» reSubstitute
  dsimp only
  refine wpAny_bind (wpAny_of_eq (reNamed_sub _ _) ?_)
  dsimp only
  refine wpAny_bind (wpAny_pure ?_)
  refine wpAny_bind (wpAny_specialOf (typeIs_str _ _ _) str_no_call ?_)
  rw [if_neg (by decide)]
  refine wpAny_bind (wpAny_of_eq (a := some rp) rfl ?_)
  dsimp only
  refine wpAny_bind (wpAny_pure ?_)
  rw [hlit]
  rw [if_neg (by decide), if_pos (by decide)]
  refine wpAny_bind (wpAny_pure ?_)
  refine wpAny_bind (wpAny_holding (whole_target X ?_))
  rw [if_neg (by show ¬ ((0 : Nat) == 1) = true; decide)]
  refine wpAny_bind (wpAny_newList ?_)
  refine wpAny_pure ⟨plainId_quiet plain_loop _, ?_⟩
  have hDn : s.heap.get? s.heap.objs.size = none := by
    cases e : s.heap.get? s.heap.objs.size with
    | none => rfl
    | some o => exact absurd (Heap.lt_size e) (Nat.lt_irrefl _)
  refine sub_loop (s := s) X hDn hx hr hf ?_ x.cps.size 0 _ _ _ 0 #[] [] (Nat.zero_add _) (fun b o e => Heap.get?_push_of_some _ e) (Heap.get?_push_size _ rfl) .nil (Nat.le_refl _) rfl
  intro h' tk t y hy hk
  exact h h' tk t y hy hk

theorem reNamed_search (xv : Value) : reNamed "re.Pattern.search" "search" ["string", "pos", "endpos"] 1 [xv] [] = pure [some xv, none, none] := by
  rfl
theorem search_call {Q : Value → Shared → Prop} (X : Pat s.heap P code3) (hx : x.length ≤ 60000)
    (yes : (∃ i, i < x.cps.size ∧ sp3 (x.cps.getD i 0) = true) → ∀ (h' : Heap) (a : Addr) (fs : Array Value), (∀ b o, s.heap.get? b = some o → h'.get? b = some o) → s.heap.get? a = none → h'.get? a = some { cls := .type "re.Match", data := .fields fs } → Q (.ref a) { s with heap := h' })
    (no : (∀ i, i < x.cps.size → sp3 (x.cps.getD i 0) = false) → Q .none s) :
    wpAny (model prog w) A (call (.builtin "re.Pattern.search") [.ref P, .str x tx]) Q E s := by
  obtain ⟨fs, T, ws, n, h1, h2, h3, h4, h5, h6⟩ := X.ex
  have hT : s.TypeIs (.ref P) "re.Pattern" := ⟨_, h1, rfl⟩
  have hxs : x.cps.size ≤ 60000 := hx
  refine wpAny_call (codeAny_call_builtin slot_search.plain entry_search (slot_search.check _ _ _ _ _ _ _ _ hT (args_search _ _) ?_))
  unfold Builtin.«re.Pattern.search» reTarget
  dsimp only
  refine wpAny_bind ?_
  refine wpAny_bind (wpAny_of_eq (reNamed_search _) ?_)
  dsimp only
  refine wpAny_bind (wpAny_pure ?_)
  refine wpAny_bind (wpAny_pure ?_)
  refine wpAny_bind (wpAny_fieldsOf h1 rfl ?_)
  refine wpAny_bind (wpAny_of_eq (a := (x.cps, 0)) rfl ?_)
  dsimp only
  rw [h4, h2, h3]
  simp only [reNoCollectionInside, reRawItems]
  rw [if_neg (by decide), if_neg (by decide), if_neg (by decide)]
  refine wpAny_bind (wpAny_pure ?_)
  refine wpAny_bind (wpAny_bind (wpAny_seqItems h5 rfl (wpAny_pure ?_)))
  refine wpAny_pure ?_
  rw [Option.getD_some, h6]
  have e1 : min (Int.toNat 0) x.cps.size = 0 := by simp
  have e2 : min (Int.toNat (2 ^ 63 - 1)) x.cps.size = x.cps.size := by
    refine Nat.min_eq_right (Nat.le_trans hxs ?_)
    decide
  rw [e1, e2]
  unfold reAnswer
  rcases finds3 (text := x.cps) with ⟨⟨a, b, hg⟩, hy⟩ | ⟨hg, hn⟩
  · refine wpAny_bind (run_end hg (by omega) fun m' hm => .inl ⟨?_, ?_⟩)
    · obtain ⟨⟨u, e1, e2⟩, _⟩ := hm; rw [e1, e2]
    dsimp only
    unfold reNewMatch
    refine wpAny_bind ?_
    rw [if_neg (by simp)]
    refine wpAny_bind (wpAny_newTuple ?_ (by rw [sizeLine_eq]; simp))
    refine wpAny_newObj_type ?_ (by size_fits)
    refine wpAny_pure ?_
    have hDn : s.heap.get? (Heap.push s.heap { cls := .type "tuple", data := .seq ([rawInt ↑m'.start, rawInt ↑m'.handed] : List Value).toArray }).objs.size = none := by
      cases e : s.heap.get? (Heap.push s.heap { cls := .type "tuple", data := .seq ([rawInt ↑m'.start, rawInt ↑m'.handed] : List Value).toArray }).objs.size with
      | none => rfl
      | some o =>
        have := Heap.lt_size e
        rw [Heap.size_push] at this
        exact absurd this (Nat.not_lt.mpr (Nat.le_succ _))
    refine yes hy _ _ _ (fun b o e => Heap.get?_push_of_some _ (Heap.get?_push_of_some _ e)) hDn (Heap.get?_push_size _ rfl)
  · refine wpAny_bind (run_end hg (by omega) fun m' hm => .inr ⟨hm, ?_⟩)
    exact wpAny_pure (no hn)
end
end Mine
end

section
open PySem PySem.W PyProof.Rows PySem.Spec
set_option Elab.async false
set_option maxRecDepth 100000
namespace Mine
open PySem.Calls
def dotsF : Bool → List Nat → List Nat
  | _, [] => []
  | f, c :: r => if f = true ∧ c = 46 then 46 :: 46 :: dotsF false r else c :: dotsF (decide (c = 10)) r
theorem dotsF_eols : ∀ (l : List Nat) (g g' b : Bool), dotsF g (eols false g' b l) = eols true g b l
  | [], g, g', b => by simp [eols, dotsF]
  | c :: r, g, g', b => by
    unfold eols
    by_cases h1 : b = true ∧ c = 10
    · rw [if_pos h1, if_pos h1]; exact dotsF_eols r g g' false
    · rw [if_neg h1, if_neg h1]
      rw [if_neg (by simp), List.nil_append]
      by_cases h2 : c = 13 ∨ c = 10
      · rw [if_pos h2, if_pos h2, if_neg (by rintro ⟨_, _, h⟩; subst h; rcases h2 with h | h <;> cases h), List.nil_append]
        rw [dotsF, if_neg (by rintro ⟨_, h⟩; cases h), dotsF, if_neg (by rintro ⟨_, h⟩; cases h)]
        rw [show decide ((10 : Nat) = 10) = true from rfl, dotsF_eols r true true _]
      · rw [if_neg h2, if_neg h2, dotsF]
        have h10 : decide (c = 10) = false := decide_eq_false fun h => h2 (.inr h)
        rw [h10]
        by_cases h3 : g = true ∧ c = 46
        · rw [if_pos h3, if_pos ⟨rfl, h3⟩, dotsF_eols r false false false, h3.2]; rfl
        · rw [if_neg h3, if_neg (fun h => h3 h.2), List.nil_append, dotsF_eols r false false false]
theorem eols_f (l : List Nat) : ∀ (f g b : Bool), eols false f b l = eols false g b l
  | f, g, b => by
    induction l generalizing f g b with
    | nil => simp [eols]
    | cons c r ih =>
      unfold eols
      by_cases h1 : b = true ∧ c = 10
      · rw [if_pos h1, if_pos h1]; exact ih f g false
      · have hd : ∀ g : Bool, ¬ (false = true ∧ g = true ∧ c = 46) := fun g h => by cases h.1
        rw [if_neg h1, if_neg h1, if_neg (hd f), if_neg (hd g)]
theorem finds_eols (text : Array Nat) (p : Nat) (hp : p ≤ text.size) : Finds code2 text (fun i => eols false true false (text.toList.drop i)) [13, 10] p := by
  refine finds2 hp ?_ ?_ ?_
  · rw [drop_end (Nat.le_refl _)]; rfl
  · intro i hi hc
    rw [drop_at hi]
    have h1 : ¬ (text.getD i 0 = 13 ∨ text.getD i 0 = 10) := by
      intro h; rcases h with h | h <;> simp [h] at hc
    rw [eols, if_neg (by simp), if_neg (by simp), List.nil_append, if_neg h1]
    rw [eols_f _ false true]
  · intro i hi hc
    have h1 : text.getD i 0 = 13 ∨ text.getD i 0 = 10 := by
      rw [Bool.or_eq_true, beq_iff_eq, beq_iff_eq] at hc; exact hc.symm
    rw [drop_at hi, eols, if_neg (by simp), if_neg (by simp), List.nil_append, if_pos h1]
    show _ = 13 :: 10 :: eols false true false (text.toList.drop (end2 text i))
    congr 2
    unfold end2
    by_cases h2 : text.getD i 0 = 13 ∧ i + 1 < text.size ∧ text.getD (i + 1) 0 = 10
    · rw [if_pos h2, drop_at h2.2.1, h2.1, h2.2.2, eols, if_pos ⟨rfl, rfl⟩]
    · rw [if_neg h2]
      by_cases h3 : text.getD i 0 = 13
      · rw [h3]
        by_cases h4 : i + 1 < text.size
        · have h5 : text.getD (i + 1) 0 ≠ 10 := fun h => h2 ⟨h3, h4, h⟩
          rw [drop_at h4, eols, eols, if_neg (fun h => h5 h.2), if_neg (fun h => nomatch h.1), if_neg (fun h : false = true ∧ _ => nomatch h.1)]
        · rw [drop_end (Nat.le_of_not_lt h4)]; rfl
      · rw [decide_eq_false h3]
theorem finds_dots (text : Array Nat) (p : Nat) (hp : p ≤ text.size) : Finds code1 text (fun i => dotsF (i == 0 || text.getD (i - 1) 0 == 10) (text.toList.drop i)) [46, 46] p := by
  have nx : ∀ i, (i + 1 == 0 || text.getD (i + 1 - 1) 0 == 10) = decide (text.getD i 0 = 10) := by
    intro i
    rw [Nat.add_sub_cancel]
    generalize text.getD i 0 = c
    show (false || c == 10) = _
    rw [Bool.false_or, Bool.eq_iff_iff]
    simp
  refine finds1 hp ?_ ?_ ?_
  · rw [drop_end (Nat.le_refl _)]; simp [dotsF]
  · intro i hi hc
    rw [drop_at hi, dotsF, if_neg (show ¬ ((i == 0 || text.getD (i - 1) 0 == 10) = true ∧ text.getD i 0 = 46) from hc), nx]
  · intro i hi hc
    rw [drop_at hi, dotsF, if_pos (show _ ∧ _ from hc), nx, hc.2]
    rfl
end Mine
end

section
open PySem PySem.W PyProof.Rows PySem.Spec
set_option Elab.async false
set_option maxRecDepth 100000
namespace Mine
open PySem.Calls
theorem subK {prog : Program} {w : World} {A : Around} {E : Value → Shared → Prop} {s : Shared} {P : Addr} {code : Array Nat} {x rp : Str} {tx tr : Tok} {h₀ : Heap} {L : Addr} {m : Str → Option Value} {news : List (Addr × Obj)} {Q : Value → Shared → Prop} {out : Nat → List Nat}
    (X : Pat h₀ P code) (F : Fr h₀ L s.heap m) (N : News h₀ L s.heap news) (hx : x.length ≤ 60000) (hr : rp.length ≤ 2) (hlit : rp.cps.contains 92 = false)
    (hf : ∀ p, p ≤ x.cps.size → Finds code x.cps out rp.cps.toList p)
    (h : ∀ (h' : Heap) (tk t : Nat) (y : Str), y.cps.toList = out 0 → Fr h₀ L h' m → News h₀ L h' news → Q (.str y t) { s with heap := h', toks := tk }) :
    wpAny (model prog w) A (call (.builtin "re.Pattern.sub") [.ref P, .str rp tr, .str x tx]) Q E s :=
  sub_call (X.keeps F.keep) hx hr hlit hf fun h' tk t y hy hk => by
    obtain ⟨oL, es, ep, hL, r⟩ := F.ns
    exact h h' tk t y hy ⟨⟨oL, es, ep, hk _ _ hL, r⟩, fun b ob e => hk _ _ (F.keep b ob e), F.above⟩ fun p hp => ⟨hk _ _ (N p hp).1, (N p hp).2⟩
theorem methodK {prog : Program} {w : World} {A : Around} {E : Value → Shared → Prop} {s : Shared} {P : Addr} {code : Array Nat} {h₀ : Heap} {L : Addr} {m : Str → Option Value} {name : Str} {id : String} {pl : Sem Bool} {Q : Value × List Value → Shared → Prop}
    (X : Pat h₀ P code) (F : Fr h₀ L s.heap m) (slot : Slot "re.Pattern" name id) (hty : typeOf (.builtin id) = pure (.type "method_descriptor")) (h : Q (.builtin id, [.ref P]) s) : wpAny (model prog w) A (getMethod (.ref P) name pl) Q E s := by
  obtain ⟨fs, T, ws, n, h1, _⟩ := (X.keeps F.keep).ex
  exact getMethod_builtin ⟨_, h1, rfl⟩ pa_pat slot hty (fun a e => by cases e; exact ⟨_, h1, rfl⟩) h
local macro_rules | `(tactic| walk_at "getMethod ref") => `(tactic| refine stop ?_)
local macro_rules | `(tactic| walk_at "call builtin:re.Pattern.sub") => `(tactic| refine stop ?_)
local macro_rules | `(tactic| walk_at "call builtin:re.Pattern.search") => `(tactic| refine stop ?_)

set_option maxHeartbeats 700000 in
theorem fix_code {w : World} {mean : ExcName → Option Value} {mg mb : Str → Option Value} {s : Shared} {dp un : Nat} {fr : Option (List Env)} {gd : Option (List Code)} {R : Result → Shared → Prop}
    {x : Str} {t : Tok} (X : (hd.heap_39 w.params).In s.heap) (T : TP mean mg mb s.heap) (hdp : dp < 680) (hlen : x.length ≤ 60000)
    (h : ∀ y : Str, y.cps.toList = eols false true false x.cps.toList → BackStr s R y) :
    codeAny (model PySem.Challenge.rw_ta0015_01.row.prog w) (AR none dp un fr gd) (.call (.ref 62) ⟨[.str x t], []⟩) R s := by
  revert X
  k_fill
  intro X
  have P48 : Pat s.heap 48 code2 := ⟨⟨_, _, _, _, X _ _ (by k_is), rfl, rfl, rfl, X _ _ (by k_is), by decide +kernel⟩⟩
  k_with_none
  refine enter (binds := [(Str.ofString "data", .str x t)]) X T (by k_is) (by k_is) (roomA (by omega)) (.of_eq rfl) (locs rfl) ?_
  intro L h₁ F N
  (try dsimp only)
  k_steps
  refine goOn ?_
  refine methodK P48 (by assumption) slot_sub type_sub ?_
  k_steps
  refine goOn ?_
  refine subK P48 (by assumption) (by assumption) hlen (by decide) (by decide +kernel) (finds_eols x.cps) ?_
  intro h' tk t' y hy F N
  k_steps
  exact h y hy _ _ _ F.keep

set_option maxHeartbeats 700000 in
theorem quote_code {w : World} {mean : ExcName → Option Value} {mg mb : Str → Option Value} {s : Shared} {dp un : Nat} {fr : Option (List Env)} {gd : Option (List Code)} {R : Result → Shared → Prop}
    {x : Str} {t : Tok} (X : (hd.heap_39 w.params).In s.heap) (T : TP mean mg mb s.heap) (hdp : dp < 680) (hlen : x.length ≤ 10000)
    (h : ∀ y : Str, y.cps.toList = eols true true false x.cps.toList → BackStr s R y) :
    codeAny (model PySem.Challenge.rw_ta0015_01.row.prog w) (AR none dp un fr gd) (.call (.ref 55) ⟨[.str x t], []⟩) R s := by
  revert X
  k_fill
  intro X
  have P43 : Pat s.heap 43 code1 := ⟨⟨_, _, _, _, X _ _ (by k_is), rfl, rfl, rfl, X _ _ (by k_is), by decide +kernel⟩⟩
  have P48 : Pat s.heap 48 code2 := ⟨⟨_, _, _, _, X _ _ (by k_is), rfl, rfl, rfl, X _ _ (by k_is), by decide +kernel⟩⟩
  k_with_none
  refine enter (binds := [(Str.ofString "data", .str x t)]) X T (by k_is) (by k_is) (roomA (by omega)) (.of_eq rfl) (locs rfl) ?_
  intro L h₁ F N
  (try dsimp only)
  k_steps
  refine goOn ?_
  refine methodK P43 (by assumption) slot_sub type_sub ?_
  k_steps
  refine goOn ?_
  refine methodK P48 (by assumption) slot_sub type_sub ?_
  k_steps
  refine goOn ?_
  refine subK P48 (by assumption) (by assumption) (Nat.le_trans hlen (by decide)) (by decide) (by decide +kernel) (finds_eols x.cps) ?_
  intro h' tk t' y hy F N
  have hyl : y.length ≤ 60000 := by
    have h1 : y.cps.toList.length ≤ 3 * x.cps.toList.length := by
      rw [hy]; exact eols_len _ _ _ _
    have e1 : y.cps.toList.length = y.length := Array.length_toList
    have e2 : x.cps.toList.length = x.length := Array.length_toList
    omega
  k_steps
  refine goOn ?_
  refine subK P43 (by assumption) (by assumption) hyl (by decide) (by decide +kernel) (finds_dots y.cps) ?_
  intro h' tk t' z hz F N
  k_steps
  refine h z ?_ _ _ _ F.keep
  rw [hz]
  show dotsF true y.cps.toList = _
  rw [hy]
  exact dotsF_eols _ _ _ _
end Mine
end

section
open PySem PySem.W PyProof.Rows PySem.Spec
set_option Elab.async false
set_option maxRecDepth 100000
namespace Mine
open PySem.Calls
theorem sp3_sp : ∀ c, c < 128 → c ≠ 64 → sp3 c = sp c := by decide +kernel
theorem any_sp {x : Str} (hg : ∀ c ∈ x.cps.toList, c < 128 ∧ c ≠ 64) {b : Bool} (h : (b = true ∧ ∃ i, i < x.cps.size ∧ sp3 (x.cps.getD i 0) = true) ∨ (b = false ∧ ∀ i, i < x.cps.size → sp3 (x.cps.getD i 0) = false)) : x.cps.toList.any sp = b := by
  have at_ : ∀ i (hi : i < x.cps.size), x.cps.getD i 0 = x.cps[i] ∧ x.cps[i] ∈ x.cps.toList := fun i hi => ⟨by simp [hi], by simp⟩
  rcases h with ⟨rfl, i, hi, h⟩ | ⟨rfl, h⟩
  · obtain ⟨e, hm⟩ := at_ i hi
    rw [e, sp3_sp _ (hg _ hm).1 (hg _ hm).2] at h
    exact List.any_eq_true.mpr ⟨_, hm, h⟩
  · rw [List.any_eq_false]
    intro c hc
    obtain ⟨i, hi, rfl⟩ := List.getElem_of_mem hc
    have hi' : i < x.cps.size := by simpa using hi
    have h1 := h i hi'
    obtain ⟨e, hm⟩ := at_ i hi'
    rw [e, sp3_sp _ (hg _ hm).1 (hg _ hm).2] at h1
    simpa using h1
theorem searchK {prog : Program} {w : World} {A : Around} {E : Value → Shared → Prop} {s : Shared} {P : Addr} {x : Str} {tx : Tok} {h₀ : Heap} {L : Addr} {m : Str → Option Value} {news : List (Addr × Obj)} {Q : Value → Shared → Prop}
    (X : Pat h₀ P code3) (F : Fr h₀ L s.heap m) (N : News h₀ L s.heap news) (hx : x.length ≤ 60000) (hg : ∀ c ∈ x.cps.toList, c < 128 ∧ c ≠ 64)
    (yes : x.cps.toList.any sp = true → ∀ (h' : Heap) (a : Addr) (fs : Array Value), Fr h₀ L h' m → News h₀ L h' ((a, { cls := .type "re.Match", data := .fields fs }) :: news) → Q (.ref a) { s with heap := h' })
    (no : x.cps.toList.any sp = false → Q .none s) :
    wpAny (model prog w) A (call (.builtin "re.Pattern.search") [.ref P, .str x tx]) Q E s :=
  search_call (X.keeps F.keep) hx (fun hy h' a fs hk hn ha => by
    obtain ⟨F', N', _⟩ := news_add F N hk hn ha
    exact yes (any_sp hg (.inl ⟨rfl, hy⟩)) h' a fs F' N') fun hn => no (any_sp hg (.inr ⟨rfl, hn⟩))
theorem m_no_bool : typeLookup (.type "re.Match") "__bool__" = pure none := by rw [typeLookup_type, builtinLookup_eq_fast]; kernel_rfl
theorem m_no_len : typeLookup (.type "re.Match") "__len__" = pure none := by rw [typeLookup_type, builtinLookup_eq_fast]; kernel_rfl
theorem truthy_match {prog : Program} {w : World} {A : Around} {E : Value → Shared → Prop} {s : Shared} {a : Addr} {fs : Array Value} {Q : Bool → Shared → Prop}
    (ha : s.heap.get? a = some { cls := .type "re.Match", data := .fields fs }) (h : Q true s) : wpAny (model prog w) A (truthy (.ref a)) Q E s := by
  have hT : s.TypeIs (.ref a) "re.Match" := ⟨_, ha, rfl⟩
  unfold truthy
  refine wpAny_bind (wpAny_callSpecial?_none hT m_no_bool ?_)
  dsimp only
  refine wpAny_bind (wpAny_specialOf hT m_no_len ?_)
  exact wpAny_pure h
local macro_rules | `(tactic| walk_at "execs cons") => `(tactic| ((with_reducible refine wpAny_execs_cons ?_); try dsimp only))
local macro_rules | `(tactic| walk_at "call builtin:str.replace") => `(tactic| (refine stop ?_))
local macro_rules | `(tactic| walk_at "getMethod ref") => `(tactic| refine stop ?_)
local macro_rules | `(tactic| walk_at "call builtin:re.Pattern.search") => `(tactic| refine stop ?_)

set_option maxHeartbeats 700000 in
theorem form0_code {w : World} {mean : ExcName → Option Value} {mg mb : Str → Option Value} {s : Shared} {dp un : Nat} {fr : Option (List Env)} {gd : Option (List Code)} {R : Result → Shared → Prop}
    {x : Str} {t tp t1 : Tok} (X : (hd.heap_39 w.params).In s.heap) (T : TP mean mg mb s.heap) (hdp : dp < 680) (hlen : x.length ≤ 10000) (hne : x.length ≠ 0) (hg : ∀ c ∈ x.cps.toList, c < 128 ∧ c ≠ 64)
    (h : ∀ y : Str, y.cps.toList = param false x.cps.toList → BackStr s R y) :
    codeAny (model PySem.Challenge.rw_ta0015_01.row.prog w) (AR none dp un fr gd) (.call (.ref 75) ⟨[.str (Str.ofString "p") tp, .str x t, .int 0 t1], []⟩) R s := by
  revert X
  k_fill
  intro X
  have P67 : Pat s.heap 67 code3 := ⟨⟨_, _, _, _, X _ _ (by k_is), rfl, rfl, rfl, X _ _ (by k_is), by decide +kernel⟩⟩
  k_with_none
  refine enter (binds := [(Str.ofString "param", .str (Str.ofString "p") tp), (Str.ofString "value", .str x t), (Str.ofString "quote", .int 0 t1)]) X T (by k_is) (by k_is) (roomA (by omega)) (binds_K X rfl (by k_is) rfl rfl rfl) (locs rfl) ?_
  intro L h₁ F N
  (try dsimp only)
  k_steps
  refine goOn ?_
  refine methodK P67 (by assumption) slot_search type_search ?_
  k_steps
  refine goOn ?_
  refine searchK P67 (by assumption) (by assumption) (Nat.le_trans hlen (by decide)) hg ?_ ?_
  · intro hany h' a fs F N
    k_steps
    refine truthy_match (N.get (.head _)) ?_
    rw [if_pos rfl, if_pos trivial]
    k_steps
    refine goOn ?_
    refine replaceM ?_ ?_ ?_ ?_ ?_ ?_ ?_
    · exact Nat.succ_ne_zero _
    · exact Nat.succ_ne_zero _
    · exact Nat.ne_of_lt (Nat.lt_succ_self _)
    · decide
    · omega
    · decide
    intro t5 k5 hk5
    k_steps
    refine goOn ?_
    have hx1 : (rep x 92 (Str.ofString "\\\\")).cps.toList = x.cps.toList.flatMap (put 92 [92, 92]) := rep_flat _ _ _
    have hl1 : (rep x 92 (Str.ofString "\\\\")).length ≤ 30000 := by
      have h1 := flat_len 92 [92, 92] x.cps.toList
      rw [← hx1] at h1
      have e1 : (rep x 92 (Str.ofString "\\\\")).cps.toList.length = (rep x 92 (Str.ofString "\\\\")).length := Array.length_toList
      have e2 : x.cps.toList.length = x.length := Array.length_toList
      simp only [List.length_cons, List.length_nil] at h1
      omega
    refine replaceM ?_ ?_ ?_ ?_ ?_ ?_ ?_
    · exact Nat.pos_iff_ne_zero.mp (Nat.lt_of_lt_of_le (Nat.succ_pos _) hk5)
    · exact Nat.succ_ne_zero _
    · exact Nat.ne_of_lt (Nat.lt_succ_self _)
    · decide
    · exact Nat.le_trans hl1 (by decide)
    · decide
    intro t6 k6 hk6
    have hx2 : (Txt.replace (Txt.replace x (Str.ofString "\\") (Str.ofString "\\\\")) (Str.ofString "\"") (Str.ofString "\\\"")).cps.toList = x.cps.toList.flatMap quo := by
      show (rep (rep x 92 (Str.ofString "\\\\")) 34 (Str.ofString "\\\"")).cps.toList = _
      rw [rep_flat, hx1, List.flatMap_assoc]
      congr 1
      funext k
      show (put 92 [92, 92] k).flatMap (put 34 [92, 34]) = quo k
      unfold put quo
      by_cases h92 : k = 92
      · subst h92; rfl
      · rw [if_neg h92, if_neg h92]
        by_cases h34 : k = 34
        · subst h34; rfl
        · rw [if_neg h34]; simp [h34]
    generalize Txt.replace (Txt.replace x (Str.ofString "\\") (Str.ofString "\\\\")) (Str.ofString "\"") (Str.ofString "\\\"") = x2 at *
    have hl2 : x2.length ≤ 30000 := by
      have h1 := quo_len x.cps.toList
      rw [← hx2] at h1
      have e1 : x2.cps.toList.length = x2.length := Array.length_toList
      have e2 : x.cps.toList.length = x.length := Array.length_toList
      omega
    k_steps
    refine h _ ?_ _ _ _ (Fr.keep (by assumption))
    show _ = _
    simp only [Str.cps_append, Array.toList_append, hx2, param, hany, Bool.or_true, if_true]
    rfl
  · intro hany
    k_steps
    refine h _ ?_ _ _ _ (Fr.keep (by assumption))
    show _ = _
    simp only [Str.cps_append, Array.toList_append, param, hany, Bool.or_false]
    rfl
end Mine
end

section
open PySem PySem.W PyProof.Rows PySem.Spec
set_option Elab.async false
set_option maxRecDepth 100000
namespace Mine
open PySem.Calls
section
variable {prog : Program} {w : World} {A : Around} {s : Shared} {env : Env} {E : Value → Shared → Prop} {Q : Flow → Shared → Prop} {x : Str} {px pos : Pos} {body : List Stmt} {h₀ : Heap}
def LoopC (prog : Program) (w : World) (A : Around) (env : Env) (x : Str) (px : Pos) (body : List Stmt) (Q : Flow → Shared → Prop) (E : Value → Shared → Prop) (it : Value) (s₂ : Shared) : Prop :=
  codeAny (model prog w) A (.forLoop (.Name x px) it body [] env) (fun r s' => match r with | .ok f => Q f s' | .error e => cameBackBy (model prog w) A env E e s') s₂
theorem For_cell {iter : Expr} (h : wpAny (model prog w) A (eval iter env) (fun xv s₁ => wpAny (model prog w) A (pyIter xv) (fun it s₂ => LoopC prog w A env x px body Q E it s₂) E s₁) E s)
    (hs : ∀ x, foldedSetIterable iter env x = pure x := by intro _; rfl) : wpAny (model prog w) A (exec (.For (.Name x px) iter body [] pos) env) Q E s := wpAny_For h hs

abbrev ctx (tx wd : Str) (m₀ : Str → Option Value) (y : Str) (t : Tok) (u : Option Value) : Str → Option Value := fun z => if z = tx then some (.str y t) else if z = wd then u else m₀ z
def CellEnd (h₀ : Heap) (L : Addr) (tx wd : Str) (m₀ : Str → Option Value) (news : List (Addr × Obj)) (P : Str → Prop) (s : Shared) (f : Flow) (s₃ : Shared) : Prop :=
  f = .next ∧ ∃ h' tk' y' t' u', s₃ = { s with heap := h', toks := tk' } ∧ Fr h₀ L h' (ctx tx wd m₀ y' t' u') ∧ News h₀ L h' news ∧ P y'

theorem loopCell {D c : Addr} {vs : List Value} {ns : List Int} {k : Nat} {fixed : List (Addr × Obj)} {o₀ : Obj} {v₀ : Option Value} {m₀ : Str → Option Value} {y₀ : Str} {t₀ : Tok} (tx wd : Str) (P : Nat → Str → Prop)
    (hh : A.handled = none) (hk : env.scope.kind = .function) (hx : env.kindOf x = some .cell) (hc : env.cells.lookup x = some c)
    (F : Fr h₀ env.locals s.heap m₀) (N : News h₀ env.locals s.heap ((c, o₀) :: fixed)) (hcd : o₀.data = .cell v₀) (hcf : ∀ p ∈ fixed, p.1 ≠ c)
    (hl : (D, listOf vs.toArray k) ∈ fixed) (hi : IntsAre vs ns) (hy : m₀ tx = some (.str y₀ t₀)) (h0 : P 0 y₀)
    (turn : ∀ (i : Nat) (n : Int) (t tt : Tok) (y : Str) (u : Option Value) (o oI : Obj) (I : Addr) (h : Heap) (tk : Nat), ns[i]? = some n → P i y → o.data = .cell (some (.int n t)) → (c < I ∧ ∀ p ∈ fixed, p.1 < I) →
      Fr h₀ env.locals h (ctx tx wd m₀ y tt u) → News h₀ env.locals h ((I, oI) :: (c, o) :: fixed) →
      wpAny (model prog w) A (execs body env) (CellEnd h₀ env.locals tx wd m₀ ((I, oI) :: (c, o) :: fixed) (P (i + 1)) { s with heap := h, toks := tk }) E { s with heap := h, toks := tk })
    (done : ∀ (y : Str) (tt : Tok) (u : Option Value) (h : Heap) (tk : Nat) (oc : Obj), P ns.length y → Fr h₀ env.locals h (ctx tx wd m₀ y tt u) → News h₀ env.locals h ((c, oc) :: fixed) → Q .next { s with heap := h, toks := tk })
    (hE : PassesOwn (model prog w) A env E := by passes_own) :
    wpAny (model prog w) A (pyIter (.ref D)) (fun it s₂ => LoopC prog w A env x px body Q E it s₂) E s := by
  refine wpAny_pyIter_list (N.isList (.tail _ hl)) ?_
  have hlt : ∀ p ∈ (c, o₀) :: fixed, p.1 < s.heap.objs.size := fun p hp => Heap.lt_size (N p hp).1
  have F₁ := F.push { cls := .type "list_iterator", data := .fields #[.ref D, .int 0 0] }
  have N₁ := News.push F N { cls := .type "list_iterator", data := .fields #[.ref D, .int 0 0] } rfl
  generalize s.heap.push { cls := .type "list_iterator", data := .fields #[.ref D, .int 0 0] } = hp at *
  generalize s.heap.objs.size = I at *
  unfold LoopC
  have hfI : ∀ p ∈ (c, o₀) :: fixed, p.1 ≠ I := fun p hp => Nat.ne_of_lt (hlt p hp)
  refine codeAny_forLoop (fun j s' => ∃ (h : Heap) (tk i : Nat) (y : Str) (tt : Tok) (u : Option Value) (o oI : Obj), s' = { s with heap := h, toks := tk } ∧ Fr h₀ env.locals h (ctx tx wd m₀ y tt u) ∧ News h₀ env.locals h ((I, oI) :: (c, o) :: fixed) ∧
    (∃ v, o.data = .cell v) ∧ oI.cls = .type "list_iterator" ∧ oI.data = .fields #[.ref D, .int (i : Int) 0] ∧ P i y ∧ i ≤ ns.length ∧ j = ns.length + 1 - i) ?_ (ns.length + 1) ?_
  · rintro j s' ⟨h, tk, i, y, tt, u, o, oI, rfl, F, N, ⟨v, hov⟩, hIc, hId, hP, hile, rfl⟩
    have hit : h.IsListIter I D i := ⟨oI, N.get (.head _), hIc, hId⟩
    have hlD : h.IsList D vs.toArray := N.isList (.tail _ (.tail _ hl))
    have NI := N (I, oI) (.head _)
    by_cases hlt' : i < ns.length
    · obtain ⟨tv, htv⟩ := hi.get i ns[i] (by simp [hlt'])
      refine wpAny_pyNext_list_item (s := { s with heap := h, toks := tk }) hit hlD (by simpa using htv) ?_
      intro h1 hit1 hs1
      obtain ⟨oI1, hoI1, hcI1, hdI1⟩ := hit1
      have F1 : Fr h₀ env.locals h1 (ctx tx wd m₀ y tt u) := F.change hs1 NI.2.1 NI.2.2
      have N1 : News h₀ env.locals h1 ((I, oI1) :: (c, o) :: fixed) := News.setAt (own := []) N (fun _ hp => nomatch hp) (fun p hp => by
        rcases List.mem_cons.mp hp with rfl | hp
        · exact hfI (c, o₀) (.head _)
        · exact hfI p (.tail _ hp)) hs1 hoI1
      have NC := N1 (c, o) (.tail _ (.head _))
      refine wpAny_assign_Name (wpAny_storeName_cell hk hx hc ⟨o, NC.1, hov⟩ ?_)
      intro h2 hv2 hs2
      obtain ⟨o2, ho2, hd2⟩ := hv2
      have F2 : Fr h₀ env.locals h2 (ctx tx wd m₀ y tt u) := F1.change hs2 NC.2.1 NC.2.2
      have N2 : News h₀ env.locals h2 ((I, oI1) :: (c, o2) :: fixed) := News.setAt (own := [(I, oI1)]) N1 (fun p hp => by rw [List.mem_singleton.mp hp]; exact (hfI (c, o₀) (.head _)).symm) hcf hs2 ho2
      refine wpAny_mono (wpAny_passesOwn hE (turn i ns[i] tv tt y u o2 oI1 I h2 tk (by simp [hlt']) hP hd2 ⟨hlt (c, o₀) (.head _), fun p hp => hlt p (.tail _ hp)⟩ F2 N2)) ?_ fun _ _ e => e
      rintro f s₃ ⟨rfl, h3, tk3, y3, t3, u3, rfl, F3, N3, hP3⟩
      exact ⟨ns.length + 1 - (i + 1), by omega, h3, tk3, i + 1, y3, t3, u3, o2, oI1, rfl, F3, N3, ⟨_, hd2⟩, hcI1, hdI1, hP3, hlt', rfl⟩
    · have hin : i = ns.length := by omega
      refine wpAny_pyNext_list_end (s := { s with heap := h, toks := tk }) hh hit hlD (by simp [hi.length, hin]) ?_
      intro h1 hs1
      refine wpAny_execs_nil ?_
      have F1 : Fr h₀ env.locals h1 (ctx tx wd m₀ y tt u) := butFr F NI.2.1 NI.2.2 fun b ob hb e => hs1 b ob hb e
      have N1 : News h₀ env.locals h1 ((c, o) :: fixed) := fun p hp => by
        have := N p (.tail _ hp)
        refine ⟨hs1 _ _ ?_ this.1, this.2⟩
        rcases List.mem_cons.mp hp with rfl | hp
        · exact hfI (c, o₀) (.head _)
        · exact hfI p (.tail _ hp)
      exact done y tt u h1 tk o (hin ▸ hP) F1 N1
  · refine ⟨hp, s.toks, 0, y₀, t₀, m₀ wd, o₀, _, rfl, ?_, N₁, ⟨_, hcd⟩, rfl, rfl, h0, Nat.zero_le _, rfl⟩
    have e : ctx tx wd m₀ y₀ t₀ (m₀ wd) = m₀ := by
      funext z
      by_cases hz : z = tx
      · subst hz; simp [ctx, hy]
      · by_cases hz2 : z = wd
        · subst hz2; simp [ctx, hz]
        · simp [ctx, hz, hz2]
    rw [e]; exact F₁
end
end Mine
end

section
open PySem PySem.W PyProof.Rows PySem.Spec
set_option Elab.async false
set_option maxRecDepth 100000
namespace Mine
open PySem.Calls
local macro_rules | `(tactic| walk_at "exec For") => `(tactic| k_dflt ((with_reducible show wpAny _ _ (exec (Stmt.For (Expr.Name _ _) (Expr.Subscript _ _ _) _ [] _) _) _ _ _); refine For_cell ?_))
local macro_rules | `(tactic| walk_at "pyIter ref") => `(tactic| refine stop ?_)
theorem pow54 (k : Nat) : (54 * 8 ^ k : Int) ≠ 0 := Int.ne_of_gt (Int.mul_pos (by decide) (Int.pow_pos (by decide)))
theorem pyl54 {x : Int} {k : Nat} (hk : k < 3) : Builtin.divisionGoesByPylong x (54 * 8 ^ k) = false := by
  refine PyProof.noPylong_small ?_
  rcases (by omega : k = 0 ∨ k = 1 ∨ k = 2) with rfl | rfl | rfl <;> decide
theorem f3 (n : Int) : (n.fmod 3 - 0).toNat ≤ 2 := by
  have h1 := Int.fmod_lt_of_pos n (show (0 : Int) < 3 by decide)
  omega
theorem k3 {k n : Int} (h : k < 0 + ((n.fmod 3 - 0).toNat : Int)) : k.toNat < 3 := by
  have h1 := f3 n
  omega
theorem z_len {z y w i : Nat} (h1 : z = y + w) (h2 : y ≤ 3 * i) (h3 : w ≤ 2) : z + 1 ≤ 3 * (i + 1) := by omega
theorem c_ok {a : Int} (h : 0 ≤ a ∧ a < 128 ∧ a ≠ 64) : a.toNat < 128 ∧ a.toNat ≠ 64 := by omega
theorem y_len {y n : Nat} (h : y ≤ 3 * min 9 n) : y ≤ 27 := by omega
local macro_rules | `(tactic| walk_at "binaryOp FloorDiv int int") => `(tactic| ((with_reducible show wpAny _ _ (binaryOp _ _ (Value.int (54 * 8 ^ _) _)) _ _ _); k_dflt (refine floordiv_int (pow54 _) ?_ (Or.inl (pyl54 (k3 (by assumption)))))))
def letters : List Int := [92, 65, 91, 93, 97, 122, 127, 96]
def closings : List Int := [38, 60, 62, 34, 46, 13, 10, 9, 32, 59, 48, 46, 40, 41, 44, 47, 58, 63]
theorem newsGen {h₀ h : Heap} {L D CL LL xc cl : Addr} {oD o1 o2 : Obj} {ca la : Array Value} (N : News h₀ L h [(D, oD), (CL, listOf ca 0), (LL, listOf la 0), (xc, o1), (cl, o2)]) :
    ∃ cvs lvs : List Value, ca.toList = cvs ∧ la.toList = lvs ∧ News h₀ L h [(xc, o1), (D, oD), (CL, listOf cvs.toArray 0), (LL, listOf lvs.toArray 0), (cl, o2)] :=
  ⟨_, _, rfl, rfl, fun p hp => N p (by
    simp only [List.mem_cons, List.not_mem_nil, or_false, Array.toArray_toList] at hp ⊢
    rcases hp with rfl | rfl | rfl | rfl | rfl <;> simp)⟩
def TextP (i : Nat) (y : Str) : Prop := y.length ≤ 3 * i ∧ ∀ c ∈ y.cps.toList, c < 128 ∧ c ≠ 64
local macro_rules | `(tactic| walk_at "call builtin:chr") => `(tactic| k_dflt (refine chr_of_range (by assumption) (Int.le_of_lt (Int.lt_trans (show _ < (128 : Int) by assumption) (by decide))) ?_))
theorem closing_all (i : Nat) : (0 : Int) ≤ [38, 60, 62, 34, 46, 13, 10, 9, 32, 59, 48, 46, 40, 41, 44, 47, 58, 63].getD i 0 ∧ ([38, 60, 62, 34, 46, 13, 10, 9, 32, 59, 48, 46, 40, 41, 44, 47, 58, 63].getD i 0 : Int) < 128 ∧ ([38, 60, 62, 34, 46, 13, 10, 9, 32, 59, 48, 46, 40, 41, 44, 47, 58, 63].getD i 0 : Int) ≠ 64 := by
  by_cases hi : i < 18
  · have : ∀ i, i < 18 → (0 : Int) ≤ [38, 60, 62, 34, 46, 13, 10, 9, 32, 59, 48, 46, 40, 41, 44, 47, 58, 63].getD i 0 ∧ ([38, 60, 62, 34, 46, 13, 10, 9, 32, 59, 48, 46, 40, 41, 44, 47, 58, 63].getD i 0 : Int) < 128 ∧ ([38, 60, 62, 34, 46, 13, 10, 9, 32, 59, 48, 46, 40, 41, 44, 47, 58, 63].getD i 0 : Int) ≠ 64 := by decide
    exact this i hi
  · rw [List.getD_eq_getElem?_getD, List.getElem?_eq_none (by simpa using hi)]
    decide
theorem flat_one (l : List Int) : l.flatMap (fun a => (({ cps := #[a.toNat] } : Str)).cps.toList) = l.map (·.toNat) := by
  induction l with
  | nil => rfl
  | cons a r ih => rw [List.flatMap_cons, List.map_cons, ih]; rfl
theorem frCtx {h₀ h : Heap} {L : Addr} {tx wd : Str} {m₀ : Str → Option Value} {y y' : Str} {t t' : Tok} {u u' : Option Value} (F : Fr h₀ L h (fun z => if z = tx then some (.str y' t') else if z = wd then u' else ctx tx wd m₀ y t u z)) : Fr h₀ L h (ctx tx wd m₀ y' t' u') := by
  have e : (fun z => if z = tx then some (.str y' t') else if z = wd then u' else ctx tx wd m₀ y t u z) = ctx tx wd m₀ y' t' u' := by
    funext z
    by_cases h1 : z = tx
    · simp [ctx, h1]
    · by_cases h2 : z = wd
      · simp [ctx, h2]
      · simp [ctx, h1, h2]
  rw [← e]; exact F
structure HideP (p : Prop) : Prop where
  out : p
local macro_rules | `(tactic| walk_at "eval Subscript") => `(tactic| ((with_reducible rename (_ ∧ _ ∧ _) ∧ _ => offX); (have offH := HideP.mk offX); clear offX))
local macro_rules | `(tactic| walk_at "CompEnd") => `(tactic| ((with_reducible rename HideP _ => offH); (have offX := offH.out); clear offH))
def Marker : Prop := True
local macro_rules | `(tactic| walk_at "CompEnd") => `(tactic| ((with_reducible rename Marker => mk9); refine stop ?_))
local macro_rules | `(tactic| walk_at "eval ListComp") => `(tactic| refine stop ?_)
local macro_rules | `(tactic| walk_at "CompSrc") => `(tactic| ((with_reducible rename Marker => mk9); refine stop ?_))
theorem word_all {n : Int} {m : Nat} : ∀ c ∈ List.map (fun k' : Int => [92, 65, 91, 93, 97, 122, 127, 96].getD ((n.fdiv (54 * 8 ^ k'.toNat)).fmod 8).toNat 0) (rangeKs 0 m), 0 ≤ c ∧ c < 128 ∧ c ≠ (64 : Int) := by
  intro c hc
  obtain ⟨k, _, rfl⟩ := List.mem_map.mp hc
  have h1 : ∀ i : Nat, (0 : Int) ≤ [92, 65, 91, 93, 97, 122, 127, 96].getD i 0 ∧ ([92, 65, 91, 93, 97, 122, 127, 96].getD i 0 : Int) < 128 ∧ ([92, 65, 91, 93, 97, 122, 127, 96].getD i 0 : Int) ≠ 64 := by
    intro i
    by_cases hi : i < 8
    · have : ∀ i, i < 8 → (0 : Int) ≤ [92, 65, 91, 93, 97, 122, 127, 96].getD i 0 ∧ ([92, 65, 91, 93, 97, 122, 127, 96].getD i 0 : Int) < 128 ∧ ([92, 65, 91, 93, 97, 122, 127, 96].getD i 0 : Int) ≠ 64 := by decide
      exact this i hi
    · rw [List.getD_eq_getElem?_getD, List.getElem?_eq_none (by simpa using hi)]
      decide
  exact h1 _
set_option maxHeartbeats 3000000 in
theorem text_code {w : World} {mean : ExcName → Option Value} {mg mb : Str → Option Value} {s : Shared} {dp un : Nat} {fr : Option (List Env)} {gd : Option (List Code)} {R : Result → Shared → Prop}
    {l : Addr} {svs : List Value} {script : List Int}
    (X : (hd.heap_39 w.params).In s.heap) (T : TP mean mg mb s.heap) (hdp : dp < 680) (hun : un + 200 < cLine) (hl : s.heap.IsList l svs.toArray) (hi : IntsAre svs script) (hlen : script.length ≤ 10000)
    (hback : ∀ y : Str, GoodN y.cps.toList → y.length ≤ 32 → BackStr s R y) :
    codeAny (model PySem.Challenge.rw_ta0015_01.row.prog w) (AR none dp un fr gd) (.call (.ref 122) ⟨[.ref l], []⟩) R s := by
  revert X
  k_fill
  intro X
  k_with_none
  refine enterC (hid := []) (g := s.heap) (binds := [(Str.ofString "script", .ref l)]) X T (fun b o e => e) (fun b hb => nomatch hb) (by k_is) (by k_is) (roomA (by omega)) (.of_eq rfl) rfl (by decide +kernel) ?_
  intro L h₁ tk cells F N Y hkeep X₁ T₁
  obtain ⟨o1, o2, hE', d1', d2'⟩ := CellsAre.two Y
  subst hE'
  clear Y X₁ T₁
  (try dsimp only [hideAll] at *)
  (try dsimp only)
  refine wpAny_mono (E := fun _ _ => False) ?_ (fun _ _ x => x) (fun _ _ x => x.elim)
  (try k_fold)
  k_steps
  refine goOn ?_
  rename News _ _ _ _ => N9
  rename Fr _ _ _ _ => F9
  rename (_ < _ ∧ _ < _ ∧ _ < _ ∧ _ < _) => hltA
  rename (_ < _ ∧ _ < _ ∧ _ < _) => hltB
  rename (_ < _ ∧ _ < _) => hltC
  obtain ⟨cvs, lvs, ec, el, N8⟩ := newsGen N9
  have hiC : IntsAre cvs [38, 60, 62, 34, 46, 13, 10, 9, 32, 59, 48, 46, 40, 41, 44, 47, 58, 63] := ec ▸ (by repeat constructor)
  have hiL : IntsAre lvs [92, 65, 91, 93, 97, 122, 127, 96] := el ▸ (by repeat constructor)
  clear N9 ec el
  refine' loopCell (P := TextP) (Str.ofString "text") (Str.ofString "word") rfl rfl rfl rfl ?kF ?kN ?kd ?kf ?kl ?ki ?ky ?k0 ?turn ?done
  (case kF => exact F9)
  (case kN => exact N8)
  (case kd => assumption)
  (case kf =>
    intro p hp
    simp only [List.mem_cons, List.not_mem_nil, or_false] at hp
    rcases hp with rfl | rfl | rfl | rfl
    · exact Nat.ne_of_gt hltA.2.2.1
    · exact Nat.ne_of_gt hltB.2.1
    · exact Nat.ne_of_gt hltC.1
    · exact Nat.ne_of_lt (Nat.lt_succ_self _))
  (case kl => exact .head _)
  (case ki => assumption)
  (case ky => exact rfl)
  (case k0 => exact ⟨Nat.le_refl _, fun c hc => nomatch hc⟩)
  (case turn =>
    clear F9 N8
    intro i n t tt y u o oI I h tk hn hP hod hlI F N
    k_steps
    refine goOn ?_
    (try dsimp only)
    have mk : Marker := trivial
    rename IntsAre _ (List.map _ (rangeKs _ _)) => hW
    have hwa := word_all (n := n) (m := ((n.fdiv 18).fmod 3 - 0).toNat)
    have hwl : (List.map (fun k' : Int => [92, 65, 91, 93, 97, 122, 127, 96].getD ((n.fdiv (54 * 8 ^ k'.toNat)).fmod 8).toNat 0) (rangeKs 0 ((n.fdiv 18).fmod 3 - 0).toNat) : List Int).length ≤ 2 := by
      rw [List.length_map, rangeKs_length]; exact f3 _
    generalize (List.map (fun k' : Int => [92, 65, 91, 93, 97, 122, 127, 96].getD ((n.fdiv (54 * 8 ^ k'.toNat)).fmod 8).toNat 0) (rangeKs 0 ((n.fdiv 18).fmod 3 - 0).toNat) : List Int) = wd at *
    refine LCg.ListComp_U (F₀ := by k_asm) (by with_unfolding_all rfl) (by decide) (by rfl) (by decide) (by rfl) ?_
    k_steps
    refine goOn ?_
    (try dsimp only)
    have hyl := hP.1
    have hi9 : i < 9 := by
      obtain ⟨hlt, _⟩ := List.getElem?_eq_some_iff.mp hn
      rw [List.length_take] at hlt
      exact Nat.lt_of_lt_of_le hlt (Nat.min_le_left _ _)
    refine LCg.CompSrc.ledger (by rfl) (by k_asm) (by k_asm) (by k_mem) (by rw [List.size_toArray, hW.length, sizeLine_eq]; exact Nat.le_trans hwl (by decide)) ?_
    intro g'
    refine kct_list (fun k => ⟨#[k.toNat]⟩) hW ?_ ?_
    · intro k' t' I' oI' C' oC' D' m' ys' h' tk' E' hk' hC' hx' F' N' off' ne'
      intro hMark'
      obtain ⟨hb0, hb1, hb2⟩ := hwa _ hk'
      (try dsimp only)
      k_steps
      refine goOn ?_
      refine LCg.CompEnd.intro (by assumption) (by assumption) _ (fun p hp => hp) off' (by first | lcg_src | assumption) ?_
      exact ⟨rfl, _, rfl⟩
    · k_steps
      have hcc := closing_all ((n.fmod 18).toNat)
      generalize [38, 60, 62, 34, 46, 13, 10, 9, 32, 59, 48, 46, 40, 41, 44, 47, 58, 63].getD (n.fmod 18).toNat (0 : Int) = cc at *
      obtain ⟨hc0, hc1, hc2⟩ := hcc
      have hz : (y ++ Txt.join (Str.ofString "") (List.map (fun a : Int => ({ cps := #[a.toNat] } : Str)) wd)).cps.toList = y.cps.toList ++ wd.map (·.toNat) := by
        rw [Str.cps_append, Array.toList_append]
        congr 1
        rw [show Str.ofString "" = ⟨#[]⟩ from rfl, join_codes, List.flatMap_map]
        exact flat_one _
      (try dsimp only)
      generalize y ++ Txt.join (Str.ofString "") (List.map (fun a : Int => ({ cps := #[a.toNat] } : Str)) wd) = z at *
      have hzl : z.length = y.length + wd.length := by
        have e1 : z.cps.toList.length = z.length := Array.length_toList
        have e2 : y.cps.toList.length = y.length := Array.length_toList
        rw [← e1, hz, List.length_append, e2, List.length_map]
      k_steps
      refine' ⟨rfl, _, _, _, _, _, rfl, frCtx (by assumption), ?_, ?_, ?_⟩
      · rename News _ _ _ _ => N7
        exact fun p hp => N7 p (by
          simp only [List.mem_cons, List.not_mem_nil, or_false] at hp ⊢
          rcases hp with rfl | rfl | rfl | rfl | rfl | rfl <;> simp)
      · show (z.cps ++ _).size ≤ _
        rw [Array.size_append]
        have e1 : z.cps.size = z.length := rfl
        rw [e1]
        exact z_len hzl hyl hwl
      · intro c hc
        rw [Str.cps_append, Array.toList_append, List.mem_append, hz, List.mem_append] at hc
        rcases hc with (hc | hc) | hc
        · exact hP.2 c hc
        · obtain ⟨a, ha, rfl⟩ := List.mem_map.mp hc
          exact c_ok (hwa a ha)
        · have : c = cc.toNat := by simpa using hc
          rw [this]; exact c_ok ⟨hc0, hc1, hc2⟩)
  (case done =>
    clear F9 N8
    intro y tt u h tk oc hP F N
    have hyl : y.length ≤ 27 := by
      have := hP.1
      rw [List.length_take] at this
      exact y_len this
    k_steps
    have hz : (y ++ Str.ofString ".\x0d.&\n").cps.toList = y.cps.toList ++ [46, 13, 46, 38, 10] := by
      rw [Str.cps_append, Array.toList_append]; rfl
    refine hback _ ⟨?_, ?_, ?_⟩ ?_ _ _ _ (Fr.keep (by assumption))
    · intro c hc
      rw [hz, List.mem_append] at hc
      rcases hc with hc | hc
      · exact hP.2 c hc
      · simp only [List.mem_cons, List.not_mem_nil, or_false] at hc
        rcases hc with rfl | rfl | rfl | rfl | rfl <;> decide
    · intro c hc
      rw [hz, List.getLast?_append] at hc
      obtain rfl : 10 = c := by simpa using hc
      decide
    · rw [hz]; simp
    · show (y.cps ++ _).size ≤ _
      rw [Array.size_append]
      exact Nat.add_le_add_right hyl 5)
end Mine
end

section
open PySem PySem.W PyProof.Rows PySem.Spec
set_option Elab.async false
namespace Mine
open PySem.Calls
def tabFits (TN : List (Int × Str)) (T : List (Nat × List Nat)) : Bool :=
  ((List.range 64).all fun c => match TN.lookup (c : Int) with
    | some z => tab T c == 38 :: z.cps.toList && (match z.cps.toList.getLast? with | some k => decide (k < 64) | none => false)
    | none => tab T c == [c]) && T.all fun p => decide (p.1 < 64)
theorem tab_high : ∀ (T : List (Nat × List Nat)) (c : Nat), 64 ≤ c → (T.all fun p => decide (p.1 < 64)) = true → tab T c = [c]
  | [], c, _, _ => rfl
  | p :: T, c, hc, h => by
    rw [List.all_cons, Bool.and_eq_true, decide_eq_true_eq] at h
    have : (c == p.1) = false := by simp; omega
    have ih := tab_high T c hc h.2
    unfold tab at *
    rw [List.lookup_cons, this]
    exact ih
theorem esc_ok {TN : List (Int × Str)} {T : List (Nat × List Nat)} (h : tabFits TN T = true) (l : List Nat) (n : Int) : nums n (nat (l.flatMap (tab T))) = marked (fun i => TN.lookup i) (nums n (nat l)) := by
  unfold tabFits at h
  rw [Bool.and_eq_true, List.all_eq_true] at h
  refine nums_marked (fun i => TN.lookup i) (tab T) ?_ ?_ (fun c hc => tab_high T c hc h.2) l n
  · intro c z hc hz
    have h1 := h.1 c (List.mem_range.mpr hc)
    rw [show TN.lookup (c : Int) = some z from hz] at h1
    dsimp only at h1
    rw [Bool.and_eq_true, beq_iff_eq] at h1
    refine ⟨h1.1, ?_⟩
    have h2 := h1.2
    split at h2
    · rename_i k hk
      obtain ⟨i, hi⟩ := List.getLast?_eq_some_iff.mp hk
      exact ⟨i, k, hi, of_decide_eq_true h2⟩
    · cases h2
  · intro c hc hz
    have h1 := h.1 c (List.mem_range.mpr hc)
    rw [show TN.lookup (c : Int) = none from hz] at h1
    exact beq_iff_eq.mp h1
def pyTab (TN : List (Int × Str)) : List (PyData × PyData) := TN.map fun p => (PyData.int p.1, PyData.str p.2)
theorem lookup_py : ∀ (TN : List (Int × Str)) (i : Int), PySem.Spec.lookup (.int i) (pyTab TN) = (TN.lookup i).map PyData.str
  | [], i => rfl
  | p :: TN, i => by
    obtain ⟨a, b⟩ := p
    have ih := lookup_py TN i
    show (if PySem.Spec.same (.int a) (.int i) then _ else _) = _
    rw [List.lookup_cons]
    by_cases h : i = a
    · subst h
      have h1 : PySem.Spec.same (.int i) (.int i) = true := by rw [PyProof.V.same_int]; simp
      rw [if_pos h1]; simp
    · have h1 : ¬ PySem.Spec.same (.int a) (.int i) = true := by rw [PyProof.V.same_int]; simpa using fun q => h q.symm
      rw [if_neg h1]
      have : (i == a) = false := by simpa using h
      rw [this]
      exact ih
theorem short_py {TN : List (Int × Str)} (h : (TN.all fun p => decide (p.2.length ≤ 10)) = true) (i : Int) (x : Str) (hx : TN.lookup i = some x) : x.length ≤ 10 := by
  induction TN with
  | nil => cases hx
  | cons p TN ih =>
    rw [List.all_cons, Bool.and_eq_true, decide_eq_true_eq] at h
    rw [List.lookup_cons] at hx
    split at hx
    · cases hx; exact h.1
    · exact ih h.2 hx
def TN4 : List (Int × Str) := [(38, Str.ofString "amp;"), (60, Str.ofString "lt;"), (62, Str.ofString "gt;"), (34, Str.ofString "quot;"), (13, Str.ofString "#13;"), (10, Str.ofString "#10;"), (9, Str.ofString "#09;")]
def TN5 : List (Int × Str) := [(38, Str.ofString "amp;"), (60, Str.ofString "lt;"), (62, Str.ofString "gt;")]
def TN6 : List (Int × Str) := [(38, Str.ofString "amp;"), (62, Str.ofString "gt;"), (34, Str.ofString "quot;")]
def TN7 : List (Int × Str) := [(38, Str.ofString "amp;"), (60, Str.ofString "lt;"), (34, Str.ofString "quot;"), (9, Str.ofString "#x9;"), (10, Str.ofString "#xA;"), (13, Str.ofString "#xD;")]
def TN8 : List (Int × Str) := [(38, Str.ofString "amp;"), (60, Str.ofString "lt;"), (62, Str.ofString "gt;"), (13, Str.ofString "#xD;")]
/-- what a writer leaves: the text, its numbers, its form and its length -/
def Wrote (x : Str) (row' : List Int) (y : Str) : Prop := nums 0 (nat y.cps.toList) = row' ∧ GoodN y.cps.toList ∧ y.length ≤ 6 * x.length
theorem len_cps (x : Str) : x.cps.toList.length = x.length := Array.length_toList
theorem wrote_eols {x y : Str} {row : List Int} (hg : GoodN x.cps.toList) (hr : row = nums 0 (nat x.cps.toList)) {dots : Bool} (h : y.cps.toList = eols dots true false x.cps.toList) : Wrote x (ended dots row) y := by
  refine ⟨by rw [h, hr]; exact ended_text dots _ hg.all, by rw [h]; exact hg.eols dots, ?_⟩
  have := eols_len dots x.cps.toList true false
  rw [← h, len_cps, len_cps] at this
  omega
theorem wrote_param {x y : Str} {row : List Int} (hg : GoodN x.cps.toList) (hr : row = nums 0 (nat x.cps.toList)) {wished : Bool} (h : y.cps.toList = param wished x.cps.toList) : Wrote x (held wished row) y := by
  refine ⟨by rw [h, hr]; exact held_text wished _ hg.all hg.last hg.ne, by rw [h]; exact hg.param wished, ?_⟩
  have := param_len wished x.cps.toList
  rw [← h, len_cps, len_cps] at this
  have h1 : 0 < x.cps.toList.length := List.length_pos_iff.mpr hg.ne
  rw [len_cps] at h1
  omega
theorem wrote_tab {x y : Str} {row : List Int} (hg : GoodN x.cps.toList) (hr : row = nums 0 (nat x.cps.toList)) {TN : List (Int × Str)} {T : List (Nat × List Nat)} (hf : tabFits TN T = true) (hT : tabOk T = true) (h6 : (T.all fun p => decide (p.2.length ≤ 6)) = true)
    (h : y.cps.toList = x.cps.toList.flatMap (tab T)) : Wrote x (marked (fun i => TN.lookup i) row) y := by
  refine ⟨by rw [h, hr]; exact esc_ok hf _ _, by rw [h]; exact hg.tab hT, ?_⟩
  have := flat_le (tab_le h6) x.cps.toList
  rw [← h, len_cps, len_cps] at this
  omega
end Mine
end

section
open PySem PySem.W PyProof.Rows PySem.Spec
set_option Elab.async false
set_option maxRecDepth 100000
namespace Mine
open PySem.Calls
section
variable {M : Model} {A : Around} {E : Value → Shared → Prop} {s : Shared} {h₀ : Heap} {L : Addr} {m : Str → Option Value} {news : List (Addr × Obj)} {f : Value} {args : List Value} {Q : Value → Shared → Prop}
theorem callTxt {P : Str → Prop} (F : Fr h₀ L s.heap m) (N : News h₀ L s.heap news) (hc : ∀ R, (∀ y, P y → BackStr s R y) → codeAny M A (.call f ⟨args, []⟩) R s)
    (h : ∀ (y : Str) (h' : Heap) (tk t : Nat), P y → Fr h₀ L h' m → News h₀ L h' news → Q (.str y t) { s with heap := h', toks := tk }) :
    wpAny M A (call f args) Q E s :=
  wpAny_call (hc _ fun y hy h' tk t hk => by
    obtain ⟨oL, es, ep, hL, r⟩ := F.ns
    exact h y h' tk t hy ⟨⟨oL, es, ep, hk _ _ hL, r⟩, fun b ob e => hk _ _ (F.keep b ob e), F.above⟩ fun p hp => ⟨hk _ _ (N p hp).1, (N p hp).2⟩)
end
/-- what _law_done hands back -/
def BackTup (s : Shared) (R : Result → Shared → Prop) (x : Str) : Prop :=
  ∀ (h' : Heap) (tk a l n ty : Nat) (y : Str) (vs : List Value), (∀ b o, s.heap.get? b = some o → h'.get? b = some o) → s.heap.get? a = none → h'.get? a = some { cls := .type "tuple", data := .seq #[.str y ty, .ref l] } →
    s.heap.get? l = none → h'.get? l = some (listOf vs.toArray n) → IntsAre vs (nums 0 (nat y.cps.toList)) → GoodN y.cps.toList → y.length ≤ 6 * x.length → R (.ok (.ret (.ref a))) { s with heap := h', toks := tk }
theorem doneEnd {s : Shared} {R : Result → Shared → Prop} {x y : Str} {row' : List Int} {L D a : Addr} {n ty tk : Nat} {vs : List Value} {h' : Heap} {m : Str → Option Value} {rest : List (Addr × Obj)} (hback : BackTup s R x)
    (F : Fr s.heap L h' m) (N : News s.heap L h' ((D, { cls := .type "tuple", data := .seq #[.str y ty, .ref a] }) :: (a, listOf vs.toArray n) :: rest)) (hi : IntsAre vs row') (hw : Wrote x row' y) : R (.ok (.ret (.ref D))) { s with heap := h', toks := tk } := by
  obtain ⟨h1, h2, h3⟩ := hw
  exact hback h' tk D a n ty y vs F.keep (N _ (.head _)).2.2 (N _ (.head _)).1 (N _ (.tail _ (.head _))).2.2 (N _ (.tail _ (.head _))).1 (h1 ▸ hi) h2 h3
local macro_rules | `(tactic| walk_at "call ref") => `(tactic| refine stop ?_)
set_option maxHeartbeats 3000000 in
theorem done_code {w : World} {mean : ExcName → Option Value} {mg mb : Str → Option Value} {s : Shared} {dp un : Nat} {fr : Option (List Env)} {gd : Option (List Code)} {R : Result → Shared → Prop}
    {l : Addr} {rvs : List Value} {row : List Int} {x : Str} {t tk : Tok}
    (X : (hd.heap_39 w.params).In s.heap) (T : TP mean mg mb s.heap) (hdp : dp < 670) (hun : un + 300 < cLine) (hl : s.heap.IsList l rvs.toArray) (hi : IntsAre rvs row)
    (hgood : GoodN x.cps.toList) (hrow : row = nums 0 (nat x.cps.toList)) (hlen : x.length ≤ 6000) (kind : Int) (hk0 : 0 ≤ kind) (hk9 : kind < 9) (hback : BackTup s R x) :
    codeAny (model PySem.Challenge.rw_ta0015_01.row.prog w) (AR none dp un fr gd) (.call (.ref 162) ⟨[.str x t, .ref l, .int kind tk], []⟩) R s := by
  revert X
  k_fill
  intro X
  k_with_none
  refine enter (binds := [(Str.ofString "text", .str x t), (Str.ofString "row", .ref l), (Str.ofString "kind", .int kind tk)]) X T (by k_is) (by k_is) (roomA (by omega)) (.of_eq rfl) (locs rfl) ?_
  intro L h₁ F N
  (try dsimp only)
  (try k_fold)
  have hxl : x.length ≤ 10000 := Nat.le_trans hlen (by decide)
  have hrl : row.length ≤ 10000 := by
    have := nums_length (nat x.cps.toList) 0
    rw [← hrow] at this
    have e1 : (nat x.cps.toList).length = x.length := by rw [nat, List.length_map, len_cps]
    omega
  have hx0 : x.length ≠ 0 := fun e => hgood.ne (List.eq_nil_of_length_eq_zero (by rw [len_cps]; exact e))
  have hpos : ∀ n ∈ row, 0 ≤ n := by rw [hrow]; exact nums_nonneg _ 0 (Int.le_refl _)
  have hfig : ∀ n ∈ row, (figs n).length ≤ 10000 := fun n hn => by
    have h1 := figSum_mem hn
    have h2 := figSum_nums (nat x.cps.toList) 0 (fun e => hgood.ne (List.map_eq_nil_iff.mp e)) (GoodN.good hgood.all hgood.last) (Int.le_refl _)
    rw [← hrow, if_pos rfl, nat, List.length_map, len_cps] at h2
    omega
  k_steps
  · refine goOn ?_
    rename Fr _ _ _ _ => F7
    rename News _ _ _ _ => N7
    refine callTxt F7 N7 (fun R' hb => quote_code (Frag.In.keeps X F7.keep) (Top.keeps T F7.keep) (by dsimp only [Around.deeper, AR]; omega) hxl hb) ?_
    intro y h' tk' ty hy F N
    clear F7 N7
    have hwr := wrote_eols hgood hrow hy
    k_steps
    refine goOn ?_
    rename Fr _ _ _ _ => F7
    rename News _ _ _ _ => N7
    refine callInts F7 N7 (fun R' hb' => ended_code (Frag.In.keeps X F7.keep) (Top.keeps T F7.keep) (by dsimp only [Around.deeper, AR]; omega) (Heap.IsList.at hl fun o e => F7.keep l o e) hi hrl hb') ?_
    intro h' tk' a' n' vs' F' N' hne' hi'
    clear F7 N7
    k_steps
    exact doneEnd (s := s) hback (by assumption) (by assumption) hi' hwr
  · refine goOn ?_
    rename Fr _ _ _ _ => F7
    rename News _ _ _ _ => N7
    refine callTxt F7 N7 (fun R' hb => fix_code (Frag.In.keeps X F7.keep) (Top.keeps T F7.keep) (by dsimp only [Around.deeper, AR]; omega) (Nat.le_trans hxl (by decide)) hb) ?_
    intro y h' tk' ty hy F N
    clear F7 N7
    have hwr := wrote_eols hgood hrow hy
    k_steps
    refine goOn ?_
    rename Fr _ _ _ _ => F7
    rename News _ _ _ _ => N7
    refine callInts F7 N7 (fun R' hb' => ended_code (Frag.In.keeps X F7.keep) (Top.keeps T F7.keep) (by dsimp only [Around.deeper, AR]; omega) (Heap.IsList.at hl fun o e => F7.keep l o e) hi hrl hb') ?_
    intro h' tk' a' n' vs' F' N' hne' hi'
    clear F7 N7
    k_steps
    exact doneEnd (s := s) hback (by assumption) (by assumption) hi' hwr
  · refine goOn ?_
    rename Fr _ _ _ _ => F7
    rename News _ _ _ _ => N7
    refine callTxt F7 N7 (fun R' hb => form1_code (Frag.In.keeps X F7.keep) (Top.keeps T F7.keep) (by dsimp only [Around.deeper, AR]; omega) hxl hx0 hb) ?_
    intro y h' tk' ty hy F N
    clear F7 N7
    have hwr := wrote_param hgood hrow hy
    k_steps
    refine goOn ?_
    rename Fr _ _ _ _ => F7
    rename News _ _ _ _ => N7
    refine callInts F7 N7 (fun R' hb' => held_code (Frag.In.keeps X F7.keep) (Top.keeps T F7.keep) (by dsimp only [Around.deeper, AR]; omega) (by dsimp only [Around.deeper, AR]; omega) (Heap.IsList.at hl fun o e => F7.keep l o e) hi hrl hpos hfig hb') ?_
    intro h' tk' a' n' vs' F' N' hne' hi'
    clear F7 N7
    k_steps
    exact doneEnd (s := s) hback (by assumption) (by assumption) hi' hwr
  · refine goOn ?_
    rename Fr _ _ _ _ => F7
    rename News _ _ _ _ => N7
    refine callTxt F7 N7 (fun R' hb => form0_code (Frag.In.keeps X F7.keep) (Top.keeps T F7.keep) (by dsimp only [Around.deeper, AR]; omega) hxl hx0 hgood.all hb) ?_
    intro y h' tk' ty hy F N
    clear F7 N7
    have hwr := wrote_param hgood hrow hy
    k_steps
    refine goOn ?_
    rename Fr _ _ _ _ => F7
    rename News _ _ _ _ => N7
    refine callInts F7 N7 (fun R' hb' => held_code (Frag.In.keeps X F7.keep) (Top.keeps T F7.keep) (by dsimp only [Around.deeper, AR]; omega) (by dsimp only [Around.deeper, AR]; omega) (Heap.IsList.at hl fun o e => F7.keep l o e) hi hrl hpos hfig hb') ?_
    intro h' tk' a' n' vs' F' N' hne' hi'
    clear F7 N7
    k_steps
    exact doneEnd (s := s) hback (by assumption) (by assumption) hi' hwr
  · refine goOn ?_
    rename Fr _ _ _ _ => F7
    rename News _ _ _ _ => N7
    refine callTxt F7 N7 (fun R' hb => esc96_code (Frag.In.keeps X F7.keep) (Top.keeps T F7.keep) (by dsimp only [Around.deeper, AR]; omega) hxl hb) ?_
    intro y h' tk' ty hy F N
    clear F7 N7
    have hwr := wrote_tab (TN := TN4) hgood hrow (by decide +kernel) (by decide) (by decide) hy
    k_steps
    refine goOn ?_
    rename Fr _ _ _ _ => F7
    rename News _ _ _ _ => N7
    have hTab := TabAt.ofNews (enc := PyData.int) N7 (.head _) (by assumption) (by assumption) (by assumption)
    refine callInts F7 N7 (fun R' hb' => marked_code (Frag.In.keeps X F7.keep) (Top.keeps T F7.keep) (by dsimp only [Around.deeper, AR]; omega) (Heap.IsList.at hl fun o e => F7.keep l o e) hi hrl hTab (lookup_py TN4) (short_py (by decide +kernel)) hb') ?_
    intro h' tk' a' n' vs' F' N' hne' hi'
    clear F7 N7
    k_steps
    exact doneEnd (s := s) hback (by assumption) (by assumption) hi' hwr
  · refine goOn ?_
    rename Fr _ _ _ _ => F7
    rename News _ _ _ _ => N7
    refine callTxt F7 N7 (fun R' hb => esc89_code (Frag.In.keeps X F7.keep) (Top.keeps T F7.keep) (by dsimp only [Around.deeper, AR]; omega) hxl hb) ?_
    intro y h' tk' ty hy F N
    clear F7 N7
    have hwr := wrote_tab (TN := TN5) hgood hrow (by decide +kernel) (by decide) (by decide) hy
    k_steps
    refine goOn ?_
    rename Fr _ _ _ _ => F7
    rename News _ _ _ _ => N7
    have hTab := TabAt.ofNews (enc := PyData.int) N7 (.head _) (by assumption) (by assumption) (by assumption)
    refine callInts F7 N7 (fun R' hb' => marked_code (Frag.In.keeps X F7.keep) (Top.keeps T F7.keep) (by dsimp only [Around.deeper, AR]; omega) (Heap.IsList.at hl fun o e => F7.keep l o e) hi hrl hTab (lookup_py TN5) (short_py (by decide +kernel)) hb') ?_
    intro h' tk' a' n' vs' F' N' hne' hi'
    clear F7 N7
    k_steps
    exact doneEnd (s := s) hback (by assumption) (by assumption) hi' hwr
  · refine goOn ?_
    rename Fr _ _ _ _ => F7
    rename News _ _ _ _ => N7
    refine callTxt F7 N7 (fun R' hb => esc103_code (Frag.In.keeps X F7.keep) (Top.keeps T F7.keep) (by dsimp only [Around.deeper, AR]; omega) hxl hb) ?_
    intro y h' tk' ty hy F N
    clear F7 N7
    have hwr := wrote_tab (TN := TN6) hgood hrow (by decide +kernel) (by decide) (by decide) hy
    k_steps
    refine goOn ?_
    rename Fr _ _ _ _ => F7
    rename News _ _ _ _ => N7
    have hTab := TabAt.ofNews (enc := PyData.int) N7 (.head _) (by assumption) (by assumption) (by assumption)
    refine callInts F7 N7 (fun R' hb' => marked_code (Frag.In.keeps X F7.keep) (Top.keeps T F7.keep) (by dsimp only [Around.deeper, AR]; omega) (Heap.IsList.at hl fun o e => F7.keep l o e) hi hrl hTab (lookup_py TN6) (short_py (by decide +kernel)) hb') ?_
    intro h' tk' a' n' vs' F' N' hne' hi'
    clear F7 N7
    k_steps
    exact doneEnd (s := s) hback (by assumption) (by assumption) hi' hwr
  · refine goOn ?_
    rename Fr _ _ _ _ => F7
    rename News _ _ _ _ => N7
    refine callTxt F7 N7 (fun R' hb => esc117_code (Frag.In.keeps X F7.keep) (Top.keeps T F7.keep) (by dsimp only [Around.deeper, AR]; omega) hxl hb) ?_
    intro y h' tk' ty hy F N
    clear F7 N7
    have hwr := wrote_tab (TN := TN7) hgood hrow (by decide +kernel) (by decide) (by decide) hy
    k_steps
    refine goOn ?_
    rename Fr _ _ _ _ => F7
    rename News _ _ _ _ => N7
    have hTab := TabAt.ofNews (enc := PyData.int) N7 (.head _) (by assumption) (by assumption) (by assumption)
    refine callInts F7 N7 (fun R' hb' => marked_code (Frag.In.keeps X F7.keep) (Top.keeps T F7.keep) (by dsimp only [Around.deeper, AR]; omega) (Heap.IsList.at hl fun o e => F7.keep l o e) hi hrl hTab (lookup_py TN7) (short_py (by decide +kernel)) hb') ?_
    intro h' tk' a' n' vs' F' N' hne' hi'
    clear F7 N7
    k_steps
    exact doneEnd (s := s) hback (by assumption) (by assumption) hi' hwr
  · refine goOn ?_
    rename Fr _ _ _ _ => F7
    rename News _ _ _ _ => N7
    refine callTxt F7 N7 (fun R' hb => esc110_code (Frag.In.keeps X F7.keep) (Top.keeps T F7.keep) (by dsimp only [Around.deeper, AR]; omega) hxl hb) ?_
    intro y h' tk' ty hy F N
    clear F7 N7
    have hwr := wrote_tab (TN := TN8) hgood hrow (by decide +kernel) (by decide) (by decide) hy
    k_steps
    refine goOn ?_
    rename Fr _ _ _ _ => F7
    rename News _ _ _ _ => N7
    have hTab := TabAt.ofNews (enc := PyData.int) N7 (.head _) (by assumption) (by assumption) (by assumption)
    refine callInts F7 N7 (fun R' hb' => marked_code (Frag.In.keeps X F7.keep) (Top.keeps T F7.keep) (by dsimp only [Around.deeper, AR]; omega) (Heap.IsList.at hl fun o e => F7.keep l o e) hi hrl hTab (lookup_py TN8) (short_py (by decide +kernel)) hb') ?_
    intro h' tk' a' n' vs' F' N' hne' hi'
    clear F7 N7
    k_steps
    exact doneEnd (s := s) hback (by assumption) (by assumption) hi' hwr
end Mine
end

section
open PySem PySem.W PyProof.Rows PySem.Spec
set_option Elab.async false
set_option maxRecDepth 100000
namespace Mine
open PySem.Calls
abbrev lctx (m₀ : Str → Option Value) (y : Str) (t : Tok) (l : Addr) (u : Option Value) : Str → Option Value :=
  fun z => if z = Str.ofString "text" then some (.str y t) else if z = Str.ofString "row" then some (.ref l) else if z = Str.ofString "k" then u else m₀ z
theorem n_tk : Str.ofString "text" ≠ Str.ofString "k" := by decide
theorem n_rk : Str.ofString "row" ≠ Str.ofString "k" := by decide
theorem n_rt : Str.ofString "row" ≠ Str.ofString "text" := by decide
theorem lctx_k {m₀ : Str → Option Value} {y : Str} {t : Tok} {l : Addr} {u v : Option Value} : (fun z => if z = Str.ofString "k" then v else lctx m₀ y t l u z) = lctx m₀ y t l v := by
  funext z
  by_cases h1 : z = Str.ofString "text"
  · subst h1; simp [lctx, n_tk]
  · by_cases h2 : z = Str.ofString "row"
    · subst h2; simp [lctx, n_rk, n_rt]
    · by_cases h3 : z = Str.ofString "k"
      · simp [lctx, h3, n_tk.symm, n_rk.symm]
      · simp [lctx, h1, h2, h3]
theorem lctx_set {h₀ h : Heap} {L : Addr} {m₀ : Str → Option Value} {y y' : Str} {t t' : Tok} {l l' : Addr} {u : Option Value} (F : Fr h₀ L h (fun z => if z = Str.ofString "row" then some (.ref l') else if z = Str.ofString "text" then some (.str y' t') else lctx m₀ y t l u z)) : Fr h₀ L h (lctx m₀ y' t' l' u) := by
  have e : (fun z => if z = Str.ofString "row" then some (.ref l') else if z = Str.ofString "text" then some (.str y' t') else lctx m₀ y t l u z) = lctx m₀ y' t' l' u := by
    funext z
    by_cases h1 : z = Str.ofString "text"
    · subst h1; simp [lctx, n_rt.symm]
    · by_cases h2 : z = Str.ofString "row"
      · subst h2; simp [lctx, n_rt]
      · simp [lctx, h1, h2]
  rw [← e]; exact F
def LawSt (i : Nat) (y : Str) (vs : List Value) : Prop := IntsAre vs (nums 0 (nat y.cps.toList)) ∧ GoodN y.cps.toList ∧ y.length ≤ 32 * 6 ^ i
def LawEnd (h₀ : Heap) (L : Addr) (m₀ : Str → Option Value) (I : Addr) (oI : Obj) (i : Nat) (s : Shared) (f : Flow) (s₃ : Shared) : Prop :=
  f = .next ∧ ∃ h' tk' y' t' l' u' vs' n', s₃ = { s with heap := h', toks := tk' } ∧ Fr h₀ L h' (lctx m₀ y' t' l' u') ∧ News h₀ L h' [(I, oI), (l', listOf vs'.toArray n')] ∧ LawSt i y' vs'
section
variable {prog : Program} {w : World} {A : Around} {s : Shared} {env : Env} {E : Value → Shared → Prop} {Q : Flow → Shared → Prop} {px pos : Pos} {body : List Stmt} {h₀ : Heap}
def LoopL (prog : Program) (w : World) (A : Around) (env : Env) (px : Pos) (body : List Stmt) (Q : Flow → Shared → Prop) (E : Value → Shared → Prop) (it : Value) (s₂ : Shared) : Prop :=
  codeAny (model prog w) A (.forLoop (.Name (Str.ofString "k") px) it body [] env) (fun r s' => match r with | .ok f => Q f s' | .error e => cameBackBy (model prog w) A env E e s') s₂
theorem For_law {iter : Expr} (h : wpAny (model prog w) A (eval iter env) (fun xv s₁ => wpAny (model prog w) A (pyIter xv) (fun it s₂ => LoopL prog w A env px body Q E it s₂) E s₁) E s)
    (hs : ∀ x, foldedSetIterable iter env x = pure x := by intro _; rfl) : wpAny (model prog w) A (exec (.For (.Name (Str.ofString "k") px) iter body [] pos) env) Q E s := wpAny_For h hs

theorem loopLaw {r : Addr} {t u v : Tok} {l₀ : Addr} {vs₀ : List Value} {n₀ : Nat} {rest : List (Addr × Obj)} {m₀ : Str → Option Value} {y₀ : Str} {t₀ : Tok}
    (hh : A.handled = none) (hx : env.kindOf (Str.ofString "k") = some .local) (hpk : (env.scope.kind == .class || (env.scope.kind == .module && env.locals != env.globals)) = false)
    (hr : IsRange s.heap r 0 3 1 t u v) (F : Fr h₀ env.locals s.heap m₀) (N : News h₀ env.locals s.heap rest) (hl : (l₀, listOf vs₀.toArray n₀) ∈ rest)
    (ht : m₀ (Str.ofString "text") = some (.str y₀ t₀)) (hrow : m₀ (Str.ofString "row") = some (.ref l₀)) (h0 : LawSt 0 y₀ vs₀)
    (turn : ∀ (i : Nat) (y : Str) (ty tk9 : Tok) (l n : Nat) (vs : List Value) (I : Addr) (oI : Obj) (h : Heap) (tk : Nat), i < 3 → LawSt i y vs → I ≠ l →
      Fr h₀ env.locals h (lctx m₀ y ty l (some (.int (i : Int) tk9))) → News h₀ env.locals h [(I, oI), (l, listOf vs.toArray n)] →
      wpAny (model prog w) A (execs body env) (LawEnd h₀ env.locals m₀ I oI (i + 1) { s with heap := h, toks := tk }) E { s with heap := h, toks := tk })
    (done : ∀ (y : Str) (ty : Tok) (u : Option Value) (l n : Nat) (vs : List Value) (h : Heap) (tk : Nat), LawSt 3 y vs → Fr h₀ env.locals h (lctx m₀ y ty l u) → News h₀ env.locals h [(l, listOf vs.toArray n)] → Q .next { s with heap := h, toks := tk })
    (hE : PassesOwn (model prog w) A env E := by passes_own) :
    wpAny (model prog w) A (pyIter (.ref r)) (fun it s₂ => LoopL prog w A env px body Q E it s₂) E s := by
  refine wpAny_pyIter_range hr (by decide) ?_
  rw [show Builtin.Range.rangeSize 0 3 1 = 3 from by decide]
  have F₁ := F.push { cls := .type "range_iterator", data := .fields #[rawInt 0, rawInt 3, rawInt 1] }
  have N₁ : News h₀ env.locals (s.heap.push { cls := .type "range_iterator", data := .fields #[rawInt 0, rawInt 3, rawInt 1] }) [(s.heap.objs.size, { cls := .type "range_iterator", data := .fields #[rawInt 0, rawInt 3, rawInt 1] }), (l₀, listOf vs₀.toArray n₀)] := fun p hp => by
    rcases List.mem_cons.mp hp with rfl | hp
    · exact News.push F N { cls := .type "range_iterator", data := .fields #[rawInt 0, rawInt 3, rawInt 1] } rfl _ (.head _)
    · rw [List.mem_singleton.mp hp]
      exact News.push F N { cls := .type "range_iterator", data := .fields #[rawInt 0, rawInt 3, rawInt 1] } rfl _ (.tail _ hl)
  generalize s.heap.push { cls := .type "range_iterator", data := .fields #[rawInt 0, rawInt 3, rawInt 1] } = hp at *
  generalize s.heap.objs.size = I at *
  unfold LoopL
  have W := Walks.range (prog := prog) (w := w) hh I 0 1 3
  refine codeAny_forLoop (fun j s' => ∃ (h : Heap) (tk i : Nat) (y : Str) (ty : Tok) (l n : Nat) (vs : List Value) (u : Option Value) (oI : Obj), s' = { s with heap := h, toks := tk } ∧ Fr h₀ env.locals h (lctx m₀ y ty l u) ∧
    News h₀ env.locals h [(I, oI), (l, listOf vs.toArray n)] ∧ oI.cls = .type "range_iterator" ∧ IsRangeIter h I (0 + (i : Nat) * 1) (((3 : Nat) : Int) - (i : Nat)) 1 ∧ LawSt i y vs ∧ i ≤ 3 ∧ j = 4 - i) ?_ 4 ?_
  · rintro j s' ⟨h, tk, i, y, ty, l, n, vs, u, oI, rfl, F, N, hIc, hst, hS, hi3, rfl⟩
    have NI := N (I, oI) (.head _)
    have NL := N (l, listOf vs.toArray n) (.tail _ (.head _))
    have hIl : I ≠ l := fun q => by
      have h1 := NI.1
      have h2 := NL.1
      rw [← q] at h2
      rw [h2] at h1
      have e := congrArg Obj.cls (Option.some.inj h1)
      rw [hIc] at e
      exact absurd (show Value.type "list" = Value.type "range_iterator" from e) (by decide)
    by_cases hlt : i < 3
    · refine W.item i _ _ _ hlt hst fun v1 h1 tk1 hP hst1 hk1 => ?_
      obtain ⟨t1, rfl⟩ := hP
      have hk1' : ∀ b o, b ≠ I → h.get? b = some o → h1.get? b = some o := fun b o hb e => hk1 b o (fun q => hb (List.mem_singleton.mp q)) e
      have F1 : Fr h₀ env.locals h1 (lctx m₀ y ty l u) := butFr F NI.2.1 NI.2.2 hk1'
      refine wpAny_assign_Name (wpAny_storeName_local hx F1.ns (fun h2 hn2 hs2 => ?_) hpk)
      have F2 := F1.set hn2 hs2
      rw [lctx_k] at F2
      obtain ⟨o2, ho2, hc2⟩ : ∃ o2, h2.get? I = some o2 ∧ o2.cls = .type "range_iterator" := by
        exact ⟨_, (hs2.2 I NI.2.1).trans hst1, rfl⟩
      have N2 : News h₀ env.locals h2 [(I, o2), (l, listOf vs.toArray n)] := fun p hp => by
        rcases List.mem_cons.mp hp with rfl | hp
        · exact ⟨ho2, NI.2⟩
        · rw [List.mem_singleton.mp hp]
          exact ⟨(hs2.2 l NL.2.1).trans (hk1' l _ hIl.symm NL.1), NL.2⟩
      have e1 : (0 + (i : Int) * 1) = (i : Int) := by omega
      rw [e1] at F2
      refine wpAny_mono (wpAny_passesOwn hE (turn i y ty t1 l n vs I o2 h2 _ hlt hS hIl F2 N2)) ?_ fun _ _ e => e
      rintro f s₃ ⟨rfl, h3, tk3, y3, t3, l3, u3, vs3, n3, rfl, F3, N3, hS3⟩
      refine ⟨4 - (i + 1), by omega, h3, tk3, i + 1, y3, t3, l3, n3, vs3, u3, o2, rfl, F3, N3, hc2, ?_, hS3, hlt, rfl⟩
      refine W.frame _ _ _ hst1 fun b hb o e => ?_
      obtain rfl := List.mem_singleton.mp hb
      have e2 : h2.get? b = some o := (hs2.2 b NI.2.1).trans e
      rw [ho2] at e2
      rw [← Option.some.inj e2]
      exact (N3 _ (.head _)).1
    · have hin : i = 3 := by omega
      subst hin
      refine W.done _ _ _ hst fun h1 tk1 hk1 => wpAny_execs_nil ?_
      have hk1' : ∀ b o, b ≠ I → h.get? b = some o → h1.get? b = some o := fun b o hb e => hk1 b o (fun q => hb (List.mem_singleton.mp q)) e
      refine done y ty u l n vs h1 tk1 hS (butFr F NI.2.1 NI.2.2 hk1') fun p hp => ?_
      rw [List.mem_singleton.mp hp]
      exact ⟨hk1' l _ hIl.symm NL.1, NL.2⟩
  · refine ⟨hp, s.toks, 0, y₀, t₀, l₀, n₀, vs₀, m₀ (Str.ofString "k"), _, rfl, ?_, N₁, rfl, (N₁ _ (.head _)).1, h0, Nat.zero_le _, rfl⟩
    have e : lctx m₀ y₀ t₀ l₀ (m₀ (Str.ofString "k")) = m₀ := by
      funext z
      by_cases h1 : z = Str.ofString "text"
      · subst h1; simp [lctx, ht]
      · by_cases h2 : z = Str.ofString "row"
        · subst h2; simp [lctx, hrow, n_rt]
        · by_cases h3 : z = Str.ofString "k"
          · subst h3; simp [lctx, n_tk.symm, n_rk.symm]
          · simp [lctx, h1, h2, h3]
    rw [e]; exact F₁
theorem turnFr {L : Addr} {h g' h' : Heap} {m : Str → Option Value} {news : List (Addr × Obj)} (F : Fr h₀ L h m) (N : News h₀ L h news) (Tn : KtsTurn [L] h g') (hk : ∀ b o, g'.get? b = some o → h'.get? b = some o) (hnone : h₀.get? L = none) : Fr h₀ L h' m ∧ News h₀ L h' news := by
  obtain ⟨oL, es, ep, hL, r⟩ := F.ns
  obtain ⟨sl, hsl⟩ := Tn.frame L oL hL (.head _)
  refine ⟨⟨⟨{ oL with slots := sl }, es, ep, hk _ _ hsl, r⟩, fun b o e => ?_, F.above⟩, fun p hp => ?_⟩
  · exact hk _ _ (Tn.other b o (F.keep b o e) fun q => by rw [List.mem_singleton.mp q, hnone] at e; cases e)
  · exact ⟨hk _ _ (Tn.other _ _ (N p hp).1 fun q => (N p hp).2.1 (List.mem_singleton.mp q)), (N p hp).2⟩
end
section
variable {w : World} {mean : ExcName → Option Value} {mg mb : Str → Option Value} {s : Shared} {h₀ : Heap} {L : Addr} {m : Str → Option Value} {news : List (Addr × Obj)} {env : Env} {Q E : Value → Shared → Prop}
  {y : Str} {ty : Tok} {l n : Nat} {vs : List Value}
theorem above_none (F : Fr h₀ L s.heap m) : h₀.get? L = none := by
  cases e : h₀.get? L with
  | none => rfl
  | some o => exact absurd (Nat.lt_of_lt_of_le (Heap.lt_size e) F.above) (Nat.lt_irrefl _)
theorem callFits (X : (hd.heap_39 w.params).In h₀) (T : TP mean mg mb h₀) (K0 : Below callerA h₀ [] h₀) (F : Fr h₀ L s.heap m) (N : News h₀ L s.heap news) (hf : env.frame = some L) (hk : env.scope.kind = .function)
    (hm : (l, listOf vs.toArray n) ∈ news) (hi : IntsAre vs (nums 0 (nat y.cps.toList))) (hg : GoodN y.cps.toList) (hl : y.length ≤ 10000)
    (h : ∀ h' tk, Fr h₀ L h' m → News h₀ L h' news → Q (.bool true) { s with heap := h', toks := tk }) :
    wpAny (model PySem.Challenge.rw_ta0015_01.row.prog w) (callerA.deeper env) (call (.ref 167) [.str y ty, .ref l]) Q E s := by
  have ec : KStt.codes y = nat y.cps.toList := codes_map y
  refine wpAny_call (fits_code (dp := callerA.depth + 1) (un := callerA.units + 3) (fr := some [env]) (gd := some []) (bs := h₀) (outer := [env]) (row := nums 0 (nat y.cps.toList)) (Frag.In.keeps X F.keep) (Top.keeps T F.keep) X T (pushX K0 F hf hk) (by decide) (by decide) (N.isList hm) hi hl
    (ec ▸ GoodN.good hg.all hg.last) (by rw [ec]) (fun e => hg.ne (by rw [ec, nat, List.map_eq_nil_iff] at e; exact e)) ?_)
  intro h' tk g' Tn hk'
  have e1 : [env].filterMap (·.frame) = [L] := by simp [hf]
  rw [e1] at Tn
  obtain ⟨F', N'⟩ := turnFr F N Tn hk' (above_none F)
  exact h h' tk F' N'
theorem callDone (X : (hd.heap_39 w.params).In h₀) (T : TP mean mg mb h₀) (F : Fr h₀ L s.heap m) (N : News h₀ L s.heap news)
    (hm : (l, listOf vs.toArray n) ∈ news) (hi : IntsAre vs (nums 0 (nat y.cps.toList))) (hg : GoodN y.cps.toList) (hl : y.length ≤ 6000) {kind : Int} {tk : Tok} (hk0 : 0 ≤ kind) (hk9 : kind < 9)
    (h : ∀ (h' : Heap) (tk' D l' n' ty' : Nat) (y' : Str) (vs' : List Value), Fr h₀ L h' m → News h₀ L h' ((D, { cls := .type "tuple", data := .seq #[.str y' ty', .ref l'] }) :: (l', listOf vs'.toArray n') :: news) →
      IntsAre vs' (nums 0 (nat y'.cps.toList)) → GoodN y'.cps.toList → y'.length ≤ 6 * y.length → Q (.ref D) { s with heap := h', toks := tk' }) :
    wpAny (model PySem.Challenge.rw_ta0015_01.row.prog w) (callerA.deeper env) (call (.ref 162) [.str y ty, .ref l, .int kind tk]) Q E s := by
  refine wpAny_call (done_code (dp := callerA.depth + 1) (un := callerA.units + 3) (fr := some [env]) (gd := some []) (row := nums 0 (nat y.cps.toList)) (Frag.In.keeps X F.keep) (Top.keeps T F.keep) (by decide) (by decide) (N.isList hm) hi hg rfl hl kind hk0 hk9 ?_)
  intro h' tk' D l' n' ty' y' vs' hk hD1 hD2 hl1 hl2 hi' hg' hl'
  obtain ⟨F', N1, _⟩ := news_add F N hk hD1 hD2
  obtain ⟨_, N2, _⟩ := news_add F N hk hl1 hl2
  refine h h' tk' D l' n' ty' y' vs' F' (fun p hp => ?_) hi' hg' hl'
  rcases List.mem_cons.mp hp with rfl | hp
  · exact N1 _ (.head _)
  · exact N2 _ hp
end
theorem pow9 (k : Nat) : (9 ^ k : Int) ≠ 0 := Int.ne_of_gt (Int.pow_pos (by decide))
theorem pyl9 {x : Int} {k : Nat} (hk : k < 3) : Builtin.divisionGoesByPylong x (9 ^ k) = false := by
  refine PyProof.noPylong_small ?_
  rcases (by omega : k = 0 ∨ k = 1 ∨ k = 2) with rfl | rfl | rfl <;> decide
theorem len6 {y i : Nat} (h : y ≤ 32 * 6 ^ i) (hi : i < 3) : y ≤ 1152 := by
  rcases (by omega : i = 0 ∨ i = 1 ∨ i = 2) with rfl | rfl | rfl <;> omega
theorem len6s {y y' i : Nat} (h : y ≤ 32 * 6 ^ i) (h' : y' ≤ 6 * y) : y' ≤ 32 * 6 ^ (i + 1) := by
  rw [Nat.pow_succ]; omega
end Mine
end

section
open PySem PySem.W PyProof.Rows PySem.Spec
set_option Elab.async false
set_option maxRecDepth 100000
namespace Mine
open PySem.Calls
local macro_rules | `(tactic| walk_at "call ref") => `(tactic| refine stop ?_)
local macro_rules | `(tactic| walk_at "exec For Name Call cons nil") => `(tactic| k_dflt (refine For_law ?_))
local macro_rules | `(tactic| walk_at "pyIter ref") => `(tactic| refine stop ?_)
local macro_rules | `(tactic| walk_at "binaryOp FloorDiv int int") => `(tactic| ((with_reducible show wpAny _ _ (binaryOp _ _ (Value.int (9 ^ _) _)) _ _ _); k_dflt (refine floordiv_int (pow9 _) ?_ (Or.inl (pyl9 (by omega))))))
set_option maxHeartbeats 8000000 in
theorem law_holds : PySem.Challenge.rw_ta0015_01.Holds := hd (by
  k_go0
  all_goals try k_fold
  rename Below callerA _ [] _ => K0
  rename Frag.In _ _ => KX
  rename Top _ _ _ _ _ _ => T
  rename ¬ ((_ : Int) < _) => hcond
  rename Heap.IsList _ _ _ => hL
  rename IntsAre _ _ => hI
  refine wpAny_mono (E := fun _ _ => False) ?_ (fun _ _ x => x) (fun _ _ x => x.elim)
  k_steps
  refine goOn ?_
  rename Fr _ _ _ _ => F7
  rename News _ _ _ _ => N7
  refine callTxt (P := fun y => GoodN y.cps.toList ∧ y.length ≤ 32) F7 N7 (fun R' hb => text_code (dp := callerA.depth + 1) (un := callerA.units + 3) (Frag.In.keeps KX F7.keep) (Top.keeps T F7.keep) (by decide) (by decide) (Heap.IsList.at hL fun o e => F7.keep _ o e) hI (by omega) (fun y h1 h2 => hb y ⟨h1, h2⟩)) ?_
  intro y h' tk' ty hy F N
  clear F7 N7
  obtain ⟨hgy, hly⟩ := hy
  k_steps
  refine goOn ?_
  rename Fr _ _ _ _ => F7
  rename News _ _ _ _ => N7
  refine callInts F7 N7 (fun R' hb => numbers_code (dp := callerA.depth + 1) (un := callerA.units + 3) (Frag.In.keeps KX F7.keep) (Top.keeps T F7.keep) (by decide) (Nat.le_trans hly (by decide)) hb) ?_
  clear F7 N7
  intro h' tk' a' n' vs' F' N' hne' hi'
  k_steps
  refine goOn ?_
  rename Fr _ _ _ _ => F7
  rename News _ _ _ _ => N7
  have hst : LawSt 0 y vs' := ⟨by rw [nat, ← codes_map]; exact hi', hgy, by simpa using hly⟩
  refine' loopLaw rfl rfl rfl ?kr ?kF ?kN ?kl ?kt ?ko ?ks ?turn ?done
  (case kF => exact F7)
  (case kN => exact N7)
  (case kr => assumption)
  (case kl => k_mem)
  (case ko => exact rfl)
  (case kt => exact rfl)
  (case ks => exact hst)
  (case turn =>
    clear F7 N7
    intro i y ty tk9 l n vs I oI h tk hi3 hS hIl F N
    obtain ⟨hS1, hS2, hS3⟩ := hS
    have hyl : y.length ≤ 1152 := len6 hS3 hi3
    k_steps
    refine goOn ?_
    rename Fr _ _ _ _ => F7
    rename News _ _ _ _ => N7
    refine callFits KX T K0 F7 N7 rfl rfl (.tail _ (.head _)) hS1 hS2 (Nat.le_trans hyl (by decide)) ?_
    clear F7 N7
    intro h' tk' F N
    k_steps
    refine goOn ?_
    rename Fr _ _ _ _ => F7
    rename News _ _ _ _ => N7
    refine callDone KX T F7 N7 (.tail _ (.head _)) hS1 hS2 (Nat.le_trans hyl (by decide)) (Int.fmod_nonneg_of_pos _ (by decide)) (Int.fmod_lt_of_pos _ (by decide)) ?_
    clear F7 N7
    intro h' tk' D l' n' ty' y' vs' F N hi' hg' hl'
    k_steps
    rename News _ _ _ _ => N7
    refine' ⟨rfl, _, _, _, _, _, _, vs', n', rfl, lctx_set (by assumption), ?_, hi', hg', len6s hS3 hl'⟩
    intro p hp
    refine N7 p ?_
    simp only [List.mem_cons, List.not_mem_nil, or_false] at hp ⊢
    rcases hp with rfl | rfl <;> simp)
  (case done =>
    clear F7 N7
    intro y ty u l n vs h tk hS F N
    obtain ⟨hS1, hS2, hS3⟩ := hS
    have hyl : y.length ≤ 10000 := Nat.le_trans hS3 (by decide)
    k_steps
    refine goOn ?_
    rename Fr _ _ _ _ => F7
    rename News _ _ _ _ => N7
    refine callFits KX T K0 F7 N7 rfl rfl (.head _) hS1 hS2 hyl ?_
    clear F7 N7
    intro h' tk' F N
    k_steps
    done))
end Mine
end

theorem PySem.Challenge.cw_ta0015_01_holds : PySem.Challenge.rw_ta0015_01.Holds := by
  exact Mine.law_holds
