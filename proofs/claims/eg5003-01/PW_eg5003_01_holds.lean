import PyProof.Rows.All
import Wide.All
import OpenK.AllK
import Wide.FinOn
import PyProof.EnumFor
import PyProof.DictCompW
import KE.KPairComp
import KE.KDictFold
import PySem.Challenge.RW_eg5003_01
open PySem PySem.W PyProof.Rows
set_option Elab.async false
set_option maxRecDepth 100000
set_option maxHeartbeats 8000000
-- Base
namespace Mine
/-- all of h stands in h' -/
def Kp (h h' : Heap) : Prop := ∀ b o, h.get? b = some o → h'.get? b = some o
theorem Kp.refl (h : Heap) : Kp h h := fun _ _ e => e
theorem Kp.trans {a b c : Heap} (x : Kp a b) (y : Kp b c) : Kp a c := fun _ _ e => y _ _ (x _ _ e)
/-- what a call of a def promises: it reads the caller's heap by `pre`, changes nothing that stood, and hands back a value with the objects nw that it made -/
def Ct (prog : Program) (w : World) (K : Frag) (f : Addr) (D : Nat) (pre : Heap → Prop) (pos : List Value) (kw : List (PySem.Str × Value)) (Ret : Value → List (Addr × Obj) → Prop) : Prop :=
  ∀ (p : Program) (loose : List PySem.Str) (mean : ExcName → Option Value) (mg mb : PySem.Str → Option Value) (dp un : Nat) (gd : Option (List Code)) (cn : PySem.Str) (cs : Scope) (a : Addr) (ccd : Value) (cl : List (PySem.Str × Addr)) (outer : List Env) (A₀ : Around) (base h₀ : Heap) (L : Addr) (m : PySem.Str → Option Value) (news : List (Addr × Obj)) (s : Shared) (Q E : Value → Shared → Prop),
    Below A₀ base outer h₀ → Fr h₀ L s.heap m → K.In h₀ → News h₀ L s.heap news → Top p loose mean mg mb h₀ → cs.kind = .function → pre s.heap → dp + D < recursionLimit → un + 20 * D < cLine →
    (∀ v nw h' tk', Ret v nw → Kp s.heap h' → (∀ q ∈ nw, s.heap.get? q.1 = none) → Fr h₀ L h' m → News h₀ L h' (nw ++ news) → Q v { s with heap := h', toks := tk' }) →
    wpAny (model prog w) (ktrTop dp un gd cn cs L a ccd cl outer) (call (.ref f) pos kw) Q E s
/-- the obligation of the body -/
def Bd (prog : Program) (w : World) (K : Frag) (f : Addr) (qual : PySem.Str) (cdv : Value) (body : List Stmt) (scope : Scope) (binds : List (PySem.Str × Value)) (D : Nat) (pre : Heap → Prop) (Ret : Value → List (Addr × Obj) → Prop) : Prop :=
  ∀ (p : Program) (loose : List PySem.Str) (mean : ExcName → Option Value) (mg mb : PySem.Str → Option Value) (dp un : Nat) (gd : Option (List Code)) (outer : List Env) (A₀ : Around) (base g : Heap) (L : Addr) (s : Shared) (Q : Flow → Shared → Prop),
    Below A₀ base outer g → Fr g L s.heap (fun y => binds.reverse.lookup y) → K.In g → News g L s.heap [] → Top p loose mean mg mb g → pre g → dp + D < recursionLimit + 1 → un + 20 * D < cLine + 3 →
    (∀ v nw m' h' tk', Ret v nw → Fr g L h' m' → News g L h' nw → Q (.ret v) { s with heap := h', toks := tk' }) →
    wpAny (model prog w) (ktrTop dp un gd qual scope L f cdv [] outer) (execs body (envOf qual scope L f cdv)) Q (fun _ _ => False) s
theorem Ct.of {prog : Program} {w : World} {K : Frag} {f : Addr} {D : Nat} {pre : Heap → Prop} {pos : List Value} {kw : List (PySem.Str × Value)} {Ret : Value → List (Addr × Obj) → Prop}
    {name qual : PySem.Str} {params : Arguments} {body : List Stmt} {scope : Scope} {dV kV doc pm cdv ct oc : Value} {an od : Option Addr} {osl : Array (Option Value)} {binds : List (PySem.Str × Value)}
    (ho : K.lookup f = some ⟨oc, od, .func (fnOf name qual params body scope dV kV doc pm an cdv ct), osl⟩) (hcd : codeIn K cdv qual = true)
    (hbind : ∀ s : Shared, K.In s.heap → BindsTo s (fnOf name qual params body scope dV kV doc pm an cdv ct) ⟨pos, kw⟩ binds) (hloc : ∀ y ∈ binds, scope.names.lookup y.1 = some .local)
    (hco : scope.isCoroutine = false) (hgen : scope.isGenerator = false) (hk : scope.kind = .function) (hcell : ∀ x ∈ scope.names, x.2 ≠ .cell)
    (hmono : ∀ h h', Kp h h' → pre h → pre h')
    (h : Bd prog w K f qual cdv body scope binds D pre Ret) : Ct prog w K f D pre pos kw Ret := by
  intro p loose mean mg mb dp un gd cn cs a ccd cl outer A₀ base h₀ L m news s Q E B F X N T hck hpre hd hu hret
  refine wpAny_call ?_
  refine code_defG (K := K) (A₀ := A₀) (news := []) B F X News.nil T rfl rfl hck ho hcd (by show dp < recursionLimit; omega) (hbind s (X.keeps F.keep)) hloc ?_ hco hgen hk hcell
  intro g L' h₁ FG F' N' B' X' T' G'
  have kg : Kp s.heap g := fun b o e => G' b o e (by simp)
  refine wpAny_mono (h p loose mean mg mb (dp + 1) (un + 3) gd _ _ base g L' _ (fun fl s' => LeaveK h₀ L m g _ (match fl with | .ret v => v | _ => .none) s') B' F' X' N' T' (hmono _ _ kg hpre) (by omega) (by omega) ?_) (fun fl s' hl => hl) (fun _ _ x => x.elim)
  intro v nw m' h' tk' hr F₁ N₁
  refine ⟨L', m', nw, F₁, N₁, fun Fz Nz => ?_⟩
  have kh : Kp s.heap h' := kg.trans F₁.keep
  refine hret v nw h' tk' hr kh (fun q hq => ?_) Fz fun q hq => ?_
  · cases e : s.heap.get? q.1 with
    | none => rfl
    | some o => have := (N₁ q hq).2.2; rw [kg _ _ e] at this; cases this
  · rcases List.mem_append.mp hq with hq | hq
    · exact Nz q hq
    · exact ⟨kh _ _ (N q hq).1, (N q hq).2⟩
theorem Ct.use {prog : Program} {w : World} {K : Frag} {f : Addr} {D : Nat} {pre : Heap → Prop} {pos : List Value} {kw : List (PySem.Str × Value)} {Ret : Value → List (Addr × Obj) → Prop} (C : Ct prog w K f D pre pos kw Ret)
    {p : Program} {loose : List PySem.Str} {mean : ExcName → Option Value} {mg mb : PySem.Str → Option Value} {dp un : Nat} {gd : Option (List Code)} {cn : PySem.Str} {cs : Scope} {a : Addr} {ccd : Value} {cl : List (PySem.Str × Addr)} {outer : List Env} {A₀ : Around} {base h₀ : Heap} {L : Addr} {m : PySem.Str → Option Value} {news : List (Addr × Obj)} {s : Shared} {Q E : Value → Shared → Prop}
    (B : Below A₀ base outer h₀) (F : Fr h₀ L s.heap m) (X : K.In h₀) (N : News h₀ L s.heap news) (T : Top p loose mean mg mb h₀) (hk : cs.kind = .function) (hp : pre s.heap) (hd : dp + D < recursionLimit) (hu : un + 20 * D < cLine)
    (h : ∀ v nw h' tk', Ret v nw → Kp s.heap h' → (∀ q ∈ nw, s.heap.get? q.1 = none) → Fr h₀ L h' m → News h₀ L h' (nw ++ news) → Q v { s with heap := h', toks := tk' }) :
    wpAny (model prog w) (ktrTop dp un gd cn cs L a ccd cl outer) (call (.ref f) pos kw) Q E s := C p loose mean mg mb dp un gd cn cs a ccd cl outer A₀ base h₀ L m news s Q E B F X N T hk hp hd hu h
/-- a ledger may be taken in any order -/
theorem news_sub {h₀ h : Heap} {L : Addr} {news news' : List (Addr × Obj)} (N : News h₀ L h news') (hs : ∀ p ∈ news, p ∈ news') : News h₀ L h news := fun p hp => N p (hs p hp)
theorem fr_pin {h₀ h : Heap} {L : Addr} {m : PySem.Str → Option Value} (ps : List (PySem.Str × Value)) (hp : ∀ q ∈ ps, m q.1 = some q.2) (F : Fr h₀ L h m) : Fr h₀ L h (kstB m ps) := by
  have e : kstB m ps = m := funext fun z => kstB_eq hp fun _ => rfl
  rw [e]; exact F
theorem fr_turn {h₀ h : Heap} {L : Addr} {m : PySem.Str → Option Value} {x : PySem.Str} {v : Value} (ps : List (PySem.Str × Value)) (hp : ∀ q ∈ ps, m q.1 = some q.2) (F : Fr h₀ L h (fun y => if y = x then some v else m y)) : Fr h₀ L h (kstB m ((x, v) :: ps)) := by
  have e : kstB m ((x, v) :: ps) = fun y => if y = x then some v else m y := by
    funext z
    show (if z = x then some v else kstB m ps z) = if z = x then some v else m z
    rw [kstB_eq hp fun _ => rfl]
  rw [e]; exact F
theorem name_addr {P : Prop} {h₀ h : Heap} {L a : Addr} {o : Obj} {r : List (Addr × Obj)} (_ : News h₀ L h ((a, o) :: r)) (k : ∀ b, b = a → P) : P := k a rfl
def Stop (P : Prop) : Prop := P
theorem Stop.into {P : Prop} (h : Stop P) : P := h
theorem Stop.out {P : Prop} (h : P) : Stop P := h
theorem list_mono {l : Addr} {vs : Array Value} {h h' : Heap} (k : Kp h h') (x : h.IsList l vs) : h'.IsList l vs := x.at fun o e => k l o e
section
variable {prog : Program} {w : World} {A : Around} {E : Value → Shared → Prop} {s : Shared} {env : Env} {h₀ : Heap} {x : PySem.Str} {body : List Stmt} {Q : Flow → Shared → Prop}
theorem iter_rangeN {r : Addr} {a₀ b₀ : Int} {t₀ u₀ v₀ : Tok} {n : Nat} {m₀ : PySem.Str → Option Value} {news : List (Addr × Obj)} (J : Nat → (PySem.Str → Option Value) → List (Addr × Obj) → Prop)
    (hh : A.handled = none) (hr : IsRange s.heap r a₀ b₀ 1 t₀ u₀ v₀) (hsmall : Builtin.Range.small a₀ b₀ 1 = true) (hn : Builtin.Range.rangeSize a₀ b₀ 1 = (n : Int)) (F : Fr h₀ env.locals s.heap m₀) (N : News h₀ env.locals s.heap news) (hj : J 0 m₀ news)
    (turn : ∀ (i : Nat) t m₁ nx h tk own, i < n → OwnOff own (news.map (·.1)) → nx.map (·.1) = news.map (·.1) → J i m₁ nx → Fr h₀ env.locals h (fun y => if y = x then some (.int (a₀ + (i : Int)) t) else m₁ y) → News h₀ env.locals h (nx ++ own) →
      wpAny (model prog w) A (execs body env) (InvPostN h₀ env.locals (J (i + 1)) own (news.map (·.1)) { s with heap := h, toks := tk } Q) E { s with heap := h, toks := tk })
    (done : ∀ m₁ nx h tk, J n m₁ nx → Fr h₀ env.locals h m₁ → News h₀ env.locals h nx → Q .next { s with heap := h, toks := tk }) :
    wpAny (model prog w) A (pyIter (.ref r)) (fun it s₂ => LoopAtV prog w A h₀ env x body Q E it s₂) E s := by
  refine wpAny_pyIter_range hr hsmall ?_
  have W : Walks prog w A s.heap.objs.size [s.heap.objs.size] [s.heap.objs.size] n (fun i v => i < n ∧ ∃ t, v = .int (a₀ + i * 1) t)
      (fun i h => IsRangeIter h s.heap.objs.size (a₀ + (i : Nat) * 1) ((n : Int) - (i : Nat)) 1) := (Walks.range hh _ a₀ 1 n).bound
  refine loop_invN J W ?_ ?_ ?_ ?_ (by show IsRangeIter _ _ _ _ _; rw [hn]; simpa using Heap.get?_push_size _ rfl) (F.push _) (fun p hp => ⟨Heap.get?_push_of_some _ (N p hp).1, (N p hp).2⟩) hj ?_ ?_
  · intro hm
    exact absurd F.ns.lt ((List.mem_singleton.mp hm) ▸ Nat.lt_irrefl _)
  · intro b hb
    rw [List.mem_singleton.mp hb]
    exact next_is_new F
  · intro p hp hI
    exact absurd (Heap.lt_size (N p hp).1) ((List.mem_singleton.mp hI) ▸ Nat.lt_irrefl _)
  · intro p hp hI
    exact absurd (Heap.lt_size (N p hp).1) ((List.mem_singleton.mp hI) ▸ Nat.lt_irrefl _)
  · rintro i v m₁ nx h tk own hi ⟨_, t, rfl⟩ hadr hoff hJ F₁ N₁
    have e1 : a₀ + (i : Int) * 1 = a₀ + (i : Int) := by omega
    rw [e1] at F₁
    exact turn i t m₁ nx h tk own hi hoff hadr hJ F₁ N₁
  · intro m₁ nx h tk hJ F₁ N₁
    exact done m₁ nx h tk hJ F₁ N₁
end
theorem rs_one (n : Nat) : Builtin.Range.rangeSize 0 (n : Int) 1 = (n : Int) := by
  unfold Builtin.Range.rangeSize
  rw [if_pos (by decide)]
  split <;> omega
theorem rsmall (n : Nat) (h : n < 2 ^ 60) : Builtin.Range.small 0 (n : Int) 1 = true := small_one (by omega) (by omega) (by omega) (by omega)
end Mine
-- Base2
namespace Mine
section
variable {prog : Program} {w : World} {A₀ A : Around} {s : Shared} {base h₀ : Heap} {outer : List Env} {L : Addr} {m : PySem.Str → Option Value} {env : Env}
theorem code_defCG {K : Frag} {p : Program} {loose : List PySem.Str} {mean : ExcName → Option Value} {mg mb : PySem.Str → Option Value} {R : Result → Shared → Prop} {name qual : PySem.Str} {params : Arguments} {body : List Stmt} {scope : Scope} {dV kV doc pm cdv ct oc : Value} {an od : Option Addr} {osl : Array (Option Value)} {f : Addr} {args : Args} {binds : List (PySem.Str × Value)}
    (B : Below A₀ base outer h₀) (F : Fr h₀ L s.heap m) (X₀ : K.In h₀) (T : Top p loose mean mg mb h₀) (hA : A.frames = some (env :: outer)) (hf : env.frame = some L) (hke : env.scope.kind = .function)
    (ho : K.lookup f = some ⟨oc, od, .func (fnOf name qual params body scope dV kV doc pm an cdv ct), osl⟩) (hcd : codeIn K cdv qual = true) (hroom : A.depth < recursionLimit)
    (hbind : BindsTo s (fnOf name qual params body scope dV kV doc pm an cdv ct) args binds) (hkind : (binds.all fun y => scope.names.lookup y.1 == some .local || scope.names.lookup y.1 == some .cell) = true)
    (hnd : ((cellsFrom 0 scope.names []).map (·.1)).Nodup)
    (h : ∀ g L' h₁ tk cells, Fr h₀ L g m → Fr g L' h₁ (bindL (envOfC qual scope L' f cdv).kindOf binds fun _ => none) → News g L' h₁ cells →
      CellsAre (bindC (envOfC qual scope L' f cdv).kindOf binds fun _ => none) (cellsFrom (L' + 1) scope.names []) cells → Below A base (env :: outer) g → K.In g → Top p loose mean mg mb g → Kp s.heap g →
      wpAny (model prog w) (A.deeper (envOfC qual scope L' f cdv)) (execs body (envOfC qual scope L' f cdv))
        (fun fl s' => LeaveK h₀ L m g R (match fl with | .ret v => v | _ => .none) s')
        (fun e s' => wpAny (model prog w) (A.deeper (envOfC qual scope L' f cdv)) (leaving (envOfC qual scope L' f cdv) e) (fun _ s'' => R (.error e) s'') (fun e' s'' => R (.error e') s'') s')
        { s with heap := h₁, toks := tk })
    (hco : scope.isCoroutine = false) (hgen : scope.isGenerator = false) (hk : scope.kind = .function) : codeAny (model prog w) A (.call (.ref f) args) R s := by
  obtain ⟨FG, BG, st, lv⟩ := groundX (R := R) B F (News.nil (h₀ := h₀) (L := L) (h := s.heap)) hA hf hke
  refine codeAny_call_function hroom ((X₀.keeps F.keep) _ _ ho) rfl hco hgen rfl (codeRec_of (X₀.keeps F.keep) hcd) (hbind _ _ _ _ ?_)
  refine wpAny_newFunctionEnv_cells hk (kindsX hkind _) fun env' he s' x => ?_
  subst he
  refine ⟨(T.nolimit.keeps F.keep).keeps x.toInCall.keep, codeAny_func ?_⟩
  obtain ⟨h₁, tk, rfl, _⟩ := x.done
  have hk₁ := x.toInCall.keep
  obtain ⟨cells, NC, Y⟩ := Cl.news (h₀ := s.heap) (Nat.le_refl _) fun n c hm => ⟨x.cell n c (lookup_of_mem_nodup (cellsFrom_names scope.names 0 (s.heap.objs.size + 1) [] [] rfl ▸ hnd) hm), x.above n c hm⟩
  refine wpAny_mono (h _ s.heap.objs.size h₁ tk cells FG ⟨x.toInCall.ns, fun b o e => hk₁ b o (of_hideAll _ e), Nat.le_of_eq (hideAll_size _ _)⟩ (fun p hp => ?_) Y BG (X₀.keeps st) (T.keeps st) (fun b o e => hideAll_get _ e (by simp))) (fun fl s' hl => lv _ _ hl) fun _ _ y => y
  refine ⟨(NC p hp).1, (NC p hp).2.1, ?_⟩
  cases q : (hideAll s.heap (([] : List (Addr × Obj)).map (·.1))).get? p.1 with
  | none => rfl
  | some o => have := of_hideAll _ q; rw [(NC p hp).2.2] at this; cases this
end
theorem lo_of {p : Program} {loose : List PySem.Str} {mean : ExcName → Option Value} {mg mb m : PySem.Str → Option Value} {g h : Heap} {L D : Addr} (T : Top p loose mean mg mb g) (F : Fr g L h m) (hL : L < D) : (D == sysModules) = false :=
  beq_eq_false_iff_ne.mpr (Nat.ne_of_gt (Nat.lt_trans (modules_low T.nolimit) (Nat.lt_of_le_of_lt F.above hL)))
/-- the obligation of the body, with cells -/
def BdC (prog : Program) (w : World) (K : Frag) (f : Addr) (qual : PySem.Str) (cdv : Value) (body : List Stmt) (scope : Scope) (binds : List (PySem.Str × Value)) (D : Nat) (pre : Heap → Prop) (Ret : Value → List (Addr × Obj) → Prop) : Prop :=
  ∀ (p : Program) (loose : List PySem.Str) (mean : ExcName → Option Value) (mg mb : PySem.Str → Option Value) (dp un : Nat) (gd : Option (List Code)) (outer : List Env) (A₀ : Around) (base g : Heap) (L : Addr) (s : Shared) (Q : Flow → Shared → Prop) (cells : List (Addr × Obj)),
    Below A₀ base outer g → Fr g L s.heap (bindL (envOfC qual scope L f cdv).kindOf binds fun _ => none) → K.In g → News g L s.heap cells → CellsAre (bindC (envOfC qual scope L f cdv).kindOf binds fun _ => none) (cellsFrom (L + 1) scope.names []) cells → Top p loose mean mg mb g → pre g → dp + D < recursionLimit + 1 → un + 20 * D < cLine + 3 →
    (∀ v nw m' h' tk', Ret v nw → Fr g L h' m' → News g L h' nw → Q (.ret v) { s with heap := h', toks := tk' }) →
    wpAny (model prog w) (ktrTop dp un gd qual scope L f cdv (cellsFrom (L + 1) scope.names []) outer) (execs body (envOfC qual scope L f cdv)) Q (fun _ _ => False) s
theorem Ct.ofC {prog : Program} {w : World} {K : Frag} {f : Addr} {D : Nat} {pre : Heap → Prop} {pos : List Value} {kw : List (PySem.Str × Value)} {Ret : Value → List (Addr × Obj) → Prop}
    {name qual : PySem.Str} {params : Arguments} {body : List Stmt} {scope : Scope} {dV kV doc pm cdv ct oc : Value} {an od : Option Addr} {osl : Array (Option Value)} {binds : List (PySem.Str × Value)}
    (ho : K.lookup f = some ⟨oc, od, .func (fnOf name qual params body scope dV kV doc pm an cdv ct), osl⟩) (hcd : codeIn K cdv qual = true)
    (hbind : ∀ s : Shared, K.In s.heap → BindsTo s (fnOf name qual params body scope dV kV doc pm an cdv ct) ⟨pos, kw⟩ binds) (hkind : (binds.all fun y => scope.names.lookup y.1 == some .local || scope.names.lookup y.1 == some .cell) = true)
    (hnd : ((cellsFrom 0 scope.names []).map (·.1)).Nodup)
    (hco : scope.isCoroutine = false) (hgen : scope.isGenerator = false) (hk : scope.kind = .function)
    (hmono : ∀ h h', Kp h h' → pre h → pre h')
    (h : BdC prog w K f qual cdv body scope binds D pre Ret) : Ct prog w K f D pre pos kw Ret := by
  intro p loose mean mg mb dp un gd cn cs a ccd cl outer A₀ base h₀ L m news s Q E B F X N T hck hpre hd hu hret
  refine wpAny_call ?_
  refine code_defCG (K := K) (A₀ := A₀) B F X T rfl rfl hck ho hcd (by show dp < recursionLimit; omega) (hbind s (X.keeps F.keep)) hkind hnd ?_ hco hgen hk
  intro g L' h₁ tk cells FG F' N' Y B' X' T' kg
  refine wpAny_mono (h p loose mean mg mb (dp + 1) (un + 3) gd _ _ base g L' _ (fun fl s' => LeaveK h₀ L m g _ (match fl with | .ret v => v | _ => .none) s') cells B' F' X' N' Y T' (hmono _ _ kg hpre) (by omega) (by omega) ?_) (fun fl s' hl => hl) (fun _ _ x => x.elim)
  intro v nw m' h' tk' hr F₁ N₁
  refine ⟨L', m', nw, F₁, N₁, fun Fz Nz => ?_⟩
  have kh : Kp s.heap h' := kg.trans F₁.keep
  refine hret v nw h' tk' hr kh (fun q hq => ?_) Fz fun q hq => ?_
  · cases e : s.heap.get? q.1 with
    | none => rfl
    | some o => have := (N₁ q hq).2.2; rw [kg _ _ e] at this; cases this
  · rcases List.mem_append.mp hq with hq | hq
    · exact Nz q hq
    · exact ⟨kh _ _ (N q hq).1, (N q hq).2⟩
end Mine
-- Top01
namespace Mine
open_top hd for PySem.Challenge.rw_eg5003_01
end Mine
-- R1
namespace Mine
namespace R
open Builtin
theorem slot_lstrip : Slot "bytes" "lstrip" "bytes.lstrip" :=
  .of (owner := "bytes") (n := "lstrip") (by rw [typeLookup_type, builtinLookup_eq_fast]; kernel_rfl) (by decide +kernel) (by decide +kernel) (by decide +kernel)
    (by first | exact .inl (by decide +kernel) | exact .inr (by decide +kernel)) (by rw [isSubtype_type]; kernel_rfl)
theorem type_lstrip : typeOf (.builtin "bytes.lstrip") = pure (.type "method_descriptor") := by show builtinType _ = _; rw [builtinType_eq_fast]; kernel_rfl
theorem entry_lstrip : entryFor table "bytes.lstrip" = some Builtin.«bytes.lstrip» := entryFor_of_tree (by kernel_rfl)
theorem args_lstrip (a b : Value) : argsOk "bytes.lstrip" ⟨[a, b], []⟩ := by
  unfold argsOk; rw [signature?_of (id := "bytes.lstrip") (n := "lstrip".toList.reverse) (o := ['s', 'e', 't', 'y', 'b']) (by kernel_rfl) FB.owner_bytes]; kernel_rfl
theorem slot_rstrip : Slot "bytes" "rstrip" "bytes.rstrip" :=
  .of (owner := "bytes") (n := "rstrip") (by rw [typeLookup_type, builtinLookup_eq_fast]; kernel_rfl) (by decide +kernel) (by decide +kernel) (by decide +kernel)
    (by first | exact .inl (by decide +kernel) | exact .inr (by decide +kernel)) (by rw [isSubtype_type]; kernel_rfl)
theorem type_rstrip : typeOf (.builtin "bytes.rstrip") = pure (.type "method_descriptor") := by show builtinType _ = _; rw [builtinType_eq_fast]; kernel_rfl
theorem entry_rstrip : entryFor table "bytes.rstrip" = some Builtin.«bytes.rstrip» := entryFor_of_tree (by kernel_rfl)
theorem args_rstrip (a : Value) : argsOk "bytes.rstrip" ⟨[a], []⟩ := by
  unfold argsOk; rw [signature?_of (id := "bytes.rstrip") (n := "rstrip".toList.reverse) (o := ['s', 'e', 't', 'y', 'b']) (by kernel_rfl) FB.owner_bytes]; kernel_rfl
theorem meets_lstrip {b c : Array UInt8} {t u : Tok} : Meets («bytes.lstrip» ⟨[.bytes b t, .bytes c u], []⟩) (fun _ R s => b.size ≤ sizeLine ∧ ∀ r t' k, r.toList = b.toList.dropWhile c.contains → R (.ok (.ret (.bytes r t'))) { s with toks := k }) := by
  refine .of_wp fun prog w A R s hS => ?_
  obtain ⟨hsz, h⟩ := hS
  unfold «bytes.lstrip» Bytes.stripM
  dsimp only
  refine wpAny_bind (wpAny_of_eq (a := (Value.bytes b t, [Value.bytes c u])) rfl ?_)
  dsimp only
  refine wpAny_bind (wpAny_of_eq KBd.like_eq ?_)
  refine wpAny_bind (wpAny_pure ?_)
  refine wpAny_bind (wpAny_of_eq (a := b) rfl ?_)
  simp only [Bool.false_eq_true, if_false, if_true]
  split
  · rename_i he
    refine wpAny_bind (wpAny_rule ?_)
    refine wpAny_bind (m := Bytes.Kind.bytes.same (Value.bytes b t)) ?_
    unfold Bytes.Kind.same
    rw [if_pos (by decide)]
    refine wpAny_bind (wpAny_typeOf (typeIs_bytes s b t) ?_)
    rw [if_pos (by decide)]
    refine wpAny_pure (wpAny_pure ⟨_, rfl, h b t _ ?_⟩)
    exact ((List.dropWhile_suffix _).eq_of_length (by simpa using he)).symm
  · refine wpAny_bind (m := Bytes.Kind.bytes.new _) (wpAny_mkBytes (wpAny_pure ⟨_, rfl, h _ _ _ ?_⟩) ?_)
    · simp
    · rw [List.size_toArray]
      exact Nat.le_trans ((List.dropWhile_suffix _).length_le) (by simpa using hsz)
theorem meets_rstrip {b : Array UInt8} {t : Tok} : Meets («bytes.rstrip» ⟨[.bytes b t], []⟩) (fun _ R s => b.size ≤ sizeLine ∧ ∀ r t' k, r.toList = (b.toList.reverse.dropWhile Bytes.isSpace).reverse → R (.ok (.ret (.bytes r t'))) { s with toks := k }) := by
  refine .of_wp fun prog w A R s hS => ?_
  obtain ⟨hsz, h⟩ := hS
  unfold «bytes.rstrip» Bytes.stripM
  dsimp only
  refine wpAny_bind (wpAny_of_eq (a := (Value.bytes b t, [])) rfl ?_)
  dsimp only
  refine wpAny_bind (wpAny_pure ?_)
  refine wpAny_bind (wpAny_of_eq (a := b) rfl ?_)
  simp only [Bool.false_eq_true, if_false, if_true]
  split
  · rename_i he
    refine wpAny_bind (wpAny_rule ?_)
    refine wpAny_bind (m := Bytes.Kind.bytes.same (Value.bytes b t)) ?_
    unfold Bytes.Kind.same
    rw [if_pos (by decide)]
    refine wpAny_bind (wpAny_typeOf (typeIs_bytes s b t) ?_)
    rw [if_pos (by decide)]
    refine wpAny_pure (wpAny_pure ⟨_, rfl, h b t _ ?_⟩)
    have e := (List.dropWhile_suffix (l := b.toList.reverse) Bytes.isSpace).eq_of_length (by simpa using he)
    rw [e, List.reverse_reverse]
  · refine wpAny_bind (m := Bytes.Kind.bytes.new _) (wpAny_mkBytes (wpAny_pure ⟨_, rfl, h _ _ _ ?_⟩) ?_)
    · simp
    · rw [List.size_toArray, List.length_reverse]
      exact Nat.le_trans ((List.dropWhile_suffix _).length_le) (by simpa using hsz)
section
variable {prog : Program} {w : World} {A : Around} {E : Value → Shared → Prop} {s : Shared} {b c : Array UInt8} {t u : Tok}
theorem lstrip_call {Q : Value → Shared → Prop} {ks cs : List Int} (hb : KBw.bInts b = ks) (hc : KBw.bInts c = cs) (hsz : ks.length ≤ 16777216) (h : ∀ r t' k, KBw.bInts r = ks.dropWhile (fun x => decide (x ∈ cs)) → Q (.bytes r t') { s with toks := k }) :
    wpAny (model prog w) A (call (.builtin "bytes.lstrip") [.bytes b t, .bytes c u]) Q E s :=
  call_meets slot_lstrip (typeIs_bytes _ _ _) entry_lstrip (args_lstrip _ _) meets_lstrip ⟨by rw [← KBw.ints_length, hb, sizeLine_eq]; exact hsz, fun r t' k hr => h r t' k (by
    subst hb hc
    unfold KBw.bInts
    rw [hr, List.dropWhile_map]
    congr 2
    funext x
    simp only [Function.comp]
    have e : (c.contains x = true) ↔ ((x.toNat : Int) ∈ c.toList.map fun c => (c.toNat : Int)) := by
      rw [Array.contains_iff_mem, List.mem_map]
      constructor
      · intro hx
        exact ⟨x, by simpa using hx, rfl⟩
      · rintro ⟨y, hy, e⟩
        have : y = x := UInt8.toNat_inj.mp (by omega)
        subst this
        simpa using hy
    by_cases hx : c.contains x = true
    · rw [hx, decide_eq_true (e.mp hx)]
    · rw [Bool.not_eq_true] at hx
      rw [hx]
      exact (decide_eq_false (fun q => by rw [e.mpr q] at hx; cases hx)).symm)⟩
theorem lstrip_method {M : Model} {pl : Sem Bool} {Q : Value × List Value → Shared → Prop} (h : Q (.builtin "bytes.lstrip", [.bytes b t]) s) : wpAny M A (getMethod (.bytes b t) "lstrip" pl) Q E s := by
  with_reducible exact KBd.method_of (.bytes b t) (typeIs_bytes _ _ _) slot_lstrip type_lstrip KBd.noRef h
theorem rstrip_method {M : Model} {pl : Sem Bool} {Q : Value × List Value → Shared → Prop} (h : Q (.builtin "bytes.rstrip", [.bytes b t]) s) : wpAny M A (getMethod (.bytes b t) "rstrip" pl) Q E s := by
  with_reducible exact KBd.method_of (.bytes b t) (typeIs_bytes _ _ _) slot_rstrip type_rstrip KBd.noRef h
def spaceI (x : Int) : Bool := decide (x = 32 ∨ (9 ≤ x ∧ x ≤ 13))
theorem rstrip_call {Q : Value → Shared → Prop} {ks : List Int} (hb : KBw.bInts b = ks) (hsz : ks.length ≤ 16777216) (h : ∀ r t' k, KBw.bInts r = (ks.reverse.dropWhile spaceI).reverse → Q (.bytes r t') { s with toks := k }) :
    wpAny (model prog w) A (call (.builtin "bytes.rstrip") [.bytes b t]) Q E s :=
  call_meets slot_rstrip (typeIs_bytes _ _ _) entry_rstrip (args_rstrip _) meets_rstrip ⟨by rw [← KBw.ints_length, hb, sizeLine_eq]; exact hsz, fun r t' k hr => h r t' k (by
    subst hb
    unfold KBw.bInts
    rw [hr, ← List.map_reverse, List.dropWhile_map, ← List.map_reverse]
    congr 3
    funext x
    simp only [Function.comp]
    unfold Bytes.isSpace spaceI
    have hx := x.toNat_lt
    have e1 : (x == 32) = decide (x.toNat = 32) := by
      by_cases q : x = 32
      · subst q; decide
      · rw [beq_eq_false_iff_ne.mpr q]
        exact (decide_eq_false (fun e => q (UInt8.toNat_inj.mp e))).symm
    have e2 : decide (9 ≤ x) = decide (9 ≤ x.toNat) := by
      simp only [UInt8.le_iff_toNat_le]; rfl
    have e3 : decide (x ≤ 13) = decide (x.toNat ≤ 13) := by
      simp only [UInt8.le_iff_toNat_le]; rfl
    rw [e1, e2, e3, ← Bool.decide_and, ← Bool.decide_or]
    congr 1
    apply propext
    omega)⟩
theorem mul_call {Q : Value → Shared → Prop} {c0 n : Int} (hb : KBw.bInts b = [c0]) (h0 : 0 ≤ n) (h1 : n ≤ 1048576) (h : ∀ r t' k, KBw.bInts r = List.replicate n.toNat c0 → Q (.bytes r t') { s with toks := k }) :
    wpAny (model prog w) A (binaryOp .Mult (.bytes b t) (.int n u)) Q E s := by
  have hl : b.toList.length = 1 := by
    have := congrArg List.length hb
    rw [KBw.ints_length] at this
    simpa using this
  have e : b = b.toList.toArray := by simp
  have hne : b.toList ≠ [] := fun q => by rw [q] at hl; simp at hl
  rw [e]
  refine bytes_mul_any hne (by omega) h1 (by omega) fun t' k => h _ t' k ?_
  obtain ⟨x, hx⟩ := List.length_eq_one_iff.mp hl
  have hx0 : (x.toNat : Int) = c0 := by
    have : KBw.bInts b = [(x.toNat : Int)] := by
      unfold KBw.bInts
      rw [hx]
      rfl
    rw [this] at hb
    simpa using hb
  unfold KBw.bInts
  rw [hx, ← hx0]
  simp
end
end R
end Mine
-- R2
namespace Mine
namespace R
open Builtin
open Builtin._codecs in
theorem encodeRoad_ascii (id : String) (self : Value) (x : PySem.Str) (errors : Option PySem.Str) : encodeRoad id self x (PySem.Str.ofString "ascii") errors = (do mkBytes (← encodeNarrow id asciiCodec errors self x)) := by
  first | rfl | (unfold encodeRoad; rfl) | (unfold encodeRoad; simp only []; rfl) | decide
open Builtin._codecs in
theorem encode_tree2 (x : PySem.Str) (t u : Tok) : «str.encode» ⟨[.str x t, .str (PySem.Str.ofString "ascii") u], []⟩ = (do ret (← encodeRoad "str.encode" (.str x t) x (PySem.Str.ofString "ascii") none)) := by
  first | rfl | kernel_rfl
theorem forIn_two {σ : Type} {f : Nat → σ → Sem (ForInStep σ)} {a b : σ} (h1 : ∀ i, f i a = pure (.yield b)) (h2 : ∀ i, f i b = pure (.done b)) : ∀ {l : List Nat}, l ≠ [] → forIn l a f = pure b
  | [], h => absurd rfl h
  | [i], _ => by
    rw [List.forIn_cons, h1]
    rfl
  | i :: j :: r, _ => by
    rw [List.forIn_cons, h1]
    show forIn (j :: r) b f = pure b
    rw [List.forIn_cons, h2]
    rfl
theorem fold_push (l : List Nat) (o : Array UInt8) : l.foldl (fun acc y => acc ++ [y.toUInt8].toArray) o = o ++ (l.map fun c => c.toUInt8).toArray := by
  induction l generalizing o with
  | nil => simp
  | cons c r ih =>
    rw [List.foldl_cons, ih]
    simp
open Builtin._codecs in
theorem narrow_ascii (id : String) (self : Value) (x : PySem.Str) (h : ∀ c ∈ x.cps, c < 128) (hz : x.length ≤ sizeLine) : encodeNarrow id asciiCodec none self x = pure (x.cps.map fun c => c.toUInt8) := by
  by_cases h0 : x.length = 0
  · have e : x.cps = #[] := Array.eq_empty_of_size_eq_zero h0
    unfold encodeNarrow
    dsimp only
    rw [h0, e]
    first | rfl | simp
  · have hbad : ∀ c ∈ x.cps, asciiCodec.bad c = false := fun c hc => by
      show decide (c ≥ 128) = false
      exact decide_eq_false (by have := h c hc; omega)
    have hfi : Array.findIdx? asciiCodec.bad x.cps = none := by
      rw [Array.findIdx?_eq_none_iff]
      exact fun c hc => by simp [hbad c hc]
    have hex : x.cps.extract 0 = x.cps := by simp
    have hsz : x.cps.size = x.length := rfl
    have hfold : Array.foldl (fun acc y => acc ++ (asciiCodec.bytesOf y).toArray) #[] x.cps = x.cps.map fun c => c.toUInt8 := by
      rw [← Array.foldl_toList]
      show x.cps.toList.foldl (fun acc y => acc ++ [y.toUInt8].toArray) #[] = _
      rw [fold_push]
      apply Array.toList_inj.mp
      simp
    unfold encodeNarrow
    dsimp only
    simp only [Std.Legacy.Range.forIn_eq_forIn_range']
    rw [forIn_two (b := (x.length, x.cps.map (fun c => c.toUInt8), {}))]
    · first | rfl | simp
    · intro i
      dsimp only
      have hpos : 0 < x.cps.size := by rw [hsz]; omega
      rw [if_neg (by simp), Array.getElem?_eq_getElem hpos]
      dsimp only
      rw [hbad _ (Array.getElem_mem hpos), Bool.not_false, if_pos rfl]
      have hex2 : x.cps.extract.extract 0 x.cps.size = x.cps := by simp
      simp only [hex, hfi, Option.getD_none]
      have hex3 : x.cps.extract 0 x.cps.size = x.cps := by simp
      rw [hfold, Nat.zero_add, hsz]
    · intro i
      dsimp only
      rw [if_neg (by rw [Array.size_map, hsz]; exact Nat.not_lt.mpr hz), Array.getElem?_eq_none (by rw [hsz]; exact Nat.le_refl _)]
    · intro e
      have := congrArg List.length e
      simp at this
      exact h0 (by simpa using this)
theorem meets_encode {x : PySem.Str} {t u : Tok} : Meets («str.encode» ⟨[.str x t, .str (PySem.Str.ofString "ascii") u], []⟩) (fun _ R s => (∀ c ∈ x.cps, c < 128) ∧ x.length ≤ sizeLine ∧ ∀ t' k, R (.ok (.ret (.bytes (x.cps.map fun c => c.toUInt8) t'))) { s with toks := k }) := by
  refine .of_wp fun prog w A R s hS => ?_
  obtain ⟨h, hz, hR⟩ := hS
  rw [encode_tree2, encodeRoad_ascii, narrow_ascii _ _ _ h hz]
  refine wpAny_bind (wpAny_bind (wpAny_pure ?_))
  refine wpAny_mkBytes (wpAny_pure ⟨_, rfl, hR _ _⟩) ?_
  rw [Array.size_map]
  exact hz
section
variable {prog : Program} {w : World} {A : Around} {E : Value → Shared → Prop} {s : Shared} {x : PySem.Str} {t u : Tok}
theorem encode_method {M : Model} {pl : Sem Bool} {Q : Value × List Value → Shared → Prop} (h : Q (.builtin "str.encode", [.str x t]) s) : wpAny M A (getMethod (.str x t) "encode" pl) Q E s := by
  with_reducible exact getMethod_builtin (typeIs_str _ _ _) F.plainAttrs_str F.slot_str_encode F.type_str_encode (fun _ e => nomatch e) h
theorem encode_call {Q : Value → Shared → Prop} (hx : ∀ c ∈ x.cps, c < 128) (hz : x.length ≤ sizeLine) (h : ∀ t' k, Q (.bytes (x.cps.map fun c => c.toUInt8) t') { s with toks := k }) :
    wpAny (model prog w) A (call (.builtin "str.encode") [.str x t, .str (PySem.Str.ofString "ascii") u]) Q E s :=
  call_meets F.slot_str_encode (typeIs_str _ _ _) F.entry_str_encode (F.args_str_encode_2 _ _) meets_encode ⟨hx, hz, h⟩
end
end R
end Mine
-- R3
namespace Mine
namespace R
open Builtin
theorem no_index_bytes : typeLookup (.type "bytes") "__index__" = pure none := by rw [typeLookup_type, builtinLookup_eq_fast]; kernel_rfl
section
variable {prog : Program} {w : World} {A : Around} {E : Value → Shared → Prop} {s : Shared} {b c : Array UInt8} {t u : Tok}
theorem asIndex_bytes {M : Model} {Q : Except Value Int → Shared → Prop} (hh : A.handled = none)
    (h : ∀ h' tk e, Heap.NewExc s.heap h' e "TypeError" → Q (.error (.ref e)) { s with heap := h', toks := tk }) : wpAny M A (asIndex (.bytes b t)).attempt Q E s := by
  refine wpAny_attempt ?_
  unfold asIndex
  refine wpAny_bind (wpAny_of_eq (a := none) rfl ?_)
  dsimp only
  refine wpAny_bind (wpAny_callSpecial?_none (typeIs_bytes s b t) no_index_bytes ?_)
  dsimp only
  have e : typeNameOfCut 200 (.bytes b t) = pure "bytes" := by first | rfl | kernel_rfl
  rw [e]
  refine wpAny_bind (wpAny_pure ?_)
  exact wpAny_raiseErrorMade plainExc_TypeError hh h (by decide)
theorem find_one {v : UInt8} : (Bytes.find? b #[v] 0 b.size).isSome = b.contains v := by
  unfold Bytes.find?
  rw [Bool.eq_iff_iff, List.find?_isSome, Array.contains_iff_mem]
  constructor
  · rintro ⟨i, hi, he⟩
    have hlt : i < b.size := by
      simp at hi
      omega
    rw [beq_iff_eq] at he
    have h0 := congrArg (fun a => a[0]?) he
    simp [Array.getElem?_extract, hlt] at h0
    rw [← h0.2]
    exact Array.getElem_mem hlt
  · intro hv
    obtain ⟨i, hi, rfl⟩ := Array.mem_iff_getElem.mp hv
    refine ⟨i, by simp; omega, ?_⟩
    rw [beq_iff_eq]
    apply Array.ext
    · simp; omega
    · intro j h1 h2
      have : j = 0 := by simpa using h2
      subst this
      simp
theorem meets_contains {v : UInt8} : Meets («bytes.__contains__» ⟨[.bytes b t, .bytes #[v] u], []⟩) (fun A R s => A.handled = none ∧ ∀ h' k, (∀ a o, s.heap.get? a = some o → h'.get? a = some o) → R (.ok (.ret (.bool (b.contains v)))) { s with heap := h', toks := k }) := by
  refine .of_wp fun prog w A R s hS => ?_
  obtain ⟨hh, h⟩ := hS
  unfold «bytes.__contains__»
  refine wpAny_bind (wpAny_of_eq (a := (Value.bytes b t, [Value.bytes #[v] u])) rfl ?_)
  dsimp only
  refine wpAny_bind (m := Bytes.containsIn _ _ _) ?_
  unfold Bytes.containsIn
  refine wpAny_bind (asIndex_bytes hh fun h' tk e hx => ?_)
  refine wpAny_bind (wpAny_of_eq KBy.buffer_eq ?_)
  dsimp only
  refine wpAny_bind (wpAny_of_eq KBy.buffer_eq ?_)
  dsimp only
  refine wpAny_bind (wpAny_rule (wpAny_pure ?_))
  rw [find_one]
  exact wpAny_pure ⟨_, rfl, h _ _ hx.keeps⟩
theorem notin_bytes {v : UInt8} {Q : Value → Shared → Prop} (hh : A.handled = none) (h : ∀ h' k, (∀ a o, s.heap.get? a = some o → h'.get? a = some o) → Q (.bool (!(b.contains v))) { s with heap := h', toks := k }) :
    wpAny (model prog w) A (compareOp .NotIn (.bytes #[v] u) (.bytes b t)) Q E s := by
  show wpAny _ _ (PySem.contains (Value.bytes b t) (Value.bytes #[v] u) >>= fun r => (pure (Value.bool (!r)) : Sem Value)) _ _ _
  refine wpAny_bind (contains_slot (typeIs_bytes s b t) FB.slot_bytes_contains ?_)
  refine call_meets FB.slot_bytes_contains (typeIs_bytes _ _ _) FB.entry_bytes_contains (FB.args_bytes_contains_2 _ _) meets_contains ⟨hh, fun h' k hk => ?_⟩
  refine wpAny_of_eq (a := b.contains v) (by rfl) ?_
  exact wpAny_pure (h h' k hk)
theorem contains_ints {v : UInt8} {ks : List Int} (hb : KBw.bInts b = ks) : b.contains v = decide ((v.toNat : Int) ∈ ks) := by
  subst hb
  have e : (b.contains v = true) ↔ ((v.toNat : Int) ∈ KBw.bInts b) := by
    unfold KBw.bInts
    rw [Array.contains_iff_mem, List.mem_map]
    constructor
    · intro hx
      exact ⟨v, by simpa using hx, rfl⟩
    · rintro ⟨y, hy, e⟩
      have : y = v := UInt8.toNat_inj.mp (by omega)
      subst this
      simpa using hy
  by_cases hx : b.contains v = true
  · rw [hx, decide_eq_true (e.mp hx)]
  · rw [Bool.not_eq_true] at hx
    rw [hx]
    exact (decide_eq_false (fun q => by rw [e.mpr q] at hx; cases hx)).symm
end
end R
end Mine
-- R4
namespace Mine
namespace R
open Builtin
section
variable {prog : Program} {w : World} {M : Model} {A : Around} {E : Value → Shared → Prop} {s : Shared} {h₀ : Heap} {L : Addr} {m : PySem.Str → Option Value} {news : List (Addr × Obj)}
theorem fb_callWith {pos : Pos} {u : Addr} {first : List Value} {env : Env} {e : PySem.Expr} {rest : List PySem.Expr} {kws : List Keyword} {Q : Value → Shared → Prop} (_N : News h₀ L s.heap news) (_hm : (u, KFB.bound) ∈ news) (hall : (backToKw pos (keywordEach kws env)).all (·.1.isSome) = true)
    (h : wpAny M A (spliced (backTo pos (starEach (e :: rest) env))) (fun vs s₁ => wpAny M A (evalAll ((backToKw pos (keywordEach kws env)).map (·.2)))
      (fun ks s₂ => KFB.StandsAt u s₂.heap ∧ wpAny M A (call (.ref u) (first ++ vs) (((backToKw pos (keywordEach kws env)).filterMap (·.1)).zip ks)) Q E s₂) E s₁) E s)
    (hplain : ((backTo pos (starEach (e :: rest) env)).any (·.1) || (backToKw pos (keywordEach kws env)).any (·.1.isNone)) = false := by rfl) (he : starEach (e :: rest) env = (false, eval e env) :: starEach rest env := by rfl) :
    wpAny M A (callWith pos (.ref u) first (backTo pos (starEach (e :: rest) env)) (backToKw pos (keywordEach kws env))) Q E s := by
  unfold callWith
  refine wpAny_bind (wpAny_holding (wpAny_mono (evalArgs_kw2 (Q := fun x s₁ => KFB.StandsAt u s₁.heap ∧ wpAny M A (call (.ref u) (first ++ x.pos) x.kw) Q E s₁) hall h he) (fun x s₁ h₁ => wpAny_bind (wpAny_standAt ?_)) fun _ _ x => x))
  obtain ⟨ho, hcall⟩ := h₁
  simp only [hplain]
  refine wpAny_bind (m := keeperOf (.ref u)) ?_
  unfold keeperOf
  refine wpAny_bind (wpAny_load ho ?_)
  simp only [KFB.bound, show (Value.type "builtin_function_or_method" != Value.type "method") = true by decide, show (Value.type "builtin_function_or_method" == Value.type "builtin_function_or_method" || Value.type "builtin_function_or_method" == Value.type "method-wrapper") = true by decide, if_true]
  refine wpAny_pure ?_
  exact wpAny_bind (wpAny_mono hcall (fun r s₂ hr => wpAny_bind (wpAny_holding (wpAny_point (wpAny_pure hr)))) fun _ _ x => x)
theorem fb_check {b : Array UInt8} {t u : Tok} : checkBoundCall "int.from_bytes" ⟨[.type "int", .bytes b t], [(PySem.Str.ofString "byteorder", .str (PySem.Str.ofString "big") u)]⟩ = pure () := by first | kernel_rfl | rfl
theorem fb_grown {n e : Nat} {Q : Value → Shared → Prop} (hn : n < 2 ^ e) (he : e < 134217728) (h : Q (.int (n : Int) s.toks) { s with toks := s.toks + 1 }) : wpAny M A (mkIntGrown (n : Int)) Q E s := by
  unfold mkIntGrown
  have hb : bitsLine = 134217728 := by first | rfl | decide
  have hl : ¬ ((n : Int).natAbs.log2 ≥ bitsLine) := by
    rw [Int.natAbs_natCast, hb]
    by_cases hz : n = 0
    · subst hz
      decide
    · have h1 := (Nat.log2_lt hz).mpr hn
      omega
  rw [if_neg hl]
  exact wpAny_mkInt h
theorem fb_tree {b : Array UInt8} {t u : Tok} {P : Fin → Shared → Prop} (hl : b.size ≤ 1000) (h : P (.done (.ret (.int (KFB.value (KBw.bInts b)) s.toks))) { s with toks := s.toks + 1 }) :
    wpAny M A (Builtin.«int.from_bytes» ⟨[.type "int", .bytes b t], [(PySem.Str.ofString "byteorder", .str (PySem.Str.ofString "big") u)]⟩) P E s := by
  have hv : ((b.toList.foldl (fun (acc : Nat) (b : UInt8) => acc * 256 + b.toNat) 0 : Nat) : Int) = KFB.value (KBw.bInts b) := KFB.fold_cast b.toList 0
  have hn : b.toList.foldl (fun (acc : Nat) (b : UInt8) => acc * 256 + b.toNat) 0 < 2 ^ (8 * b.size) := by
    have h1 := KFB.fold_lt b.toList 0
    rw [Nat.zero_add, Nat.one_mul, Array.length_toList] at h1
    rw [Nat.pow_mul]
    exact h1
  unfold Builtin.«int.from_bytes»
  refine wpAny_bind (wpAny_of_eq (a := true) KFB.type_int ?_)
  refine KFB.if_not rfl ?_
  refine wpAny_bind (wpAny_of_eq (a := true) F.conv_sub_int ?_)
  refine KFB.if_not rfl ?_
  refine wpAny_bind (wpAny_of_eq (a := [some (.bytes b t), some (.str (PySem.Str.ofString "big") u), none]) (by kernel_rfl) ?_)
  refine wpAny_bind (wpAny_of_eq (a := PySem.Str.ofString "big") (by kernel_rfl) ?_)
  refine wpAny_bind (wpAny_of_eq (a := false) rfl ?_)
  refine wpAny_bind (wpAny_of_eq (a := false) (by kernel_rfl) ?_)
  refine wpAny_bind (wpAny_of_eq (a := b) rfl ?_)
  show wpAny _ _ (mkIntGrown (b.toList.foldl (fun (acc : Int) (b : UInt8) => acc * 256 + (b.toNat : Int)) ((0 : Nat) : Int)) >>= fun v => _) _ _ _
  rw [KFB.foldI_eq]
  refine wpAny_bind (fb_grown hn (by omega) ?_)
  rw [hv]
  refine KFB.if_so (by decide +kernel) ?_
  exact wpAny_bind (wpAny_pure (wpAny_pure h))
theorem fb_call {x : Addr} {b : Array UInt8} {t u : Tok} {ks : List Int} {Q : Value → Shared → Prop} (N : News h₀ L s.heap news) (hm : (x, KFB.bound) ∈ news) (hb : KBw.bInts b = ks) (hl : ks.length ≤ 1000)
    (h : ∀ t' k, Q (.int (ks.foldl (fun a k => a * 256 + k) 0) t') { s with toks := k }) : wpAny (model prog w) A (call (.ref x) [.bytes b t] [(PySem.Str.ofString "byteorder", .str (PySem.Str.ofString "big") u)]) Q E s := by
  subst hb
  have ho := KFB.at_of N hm
  refine wpAny_call (codeAny_of_tree ?_)
  show wpAny _ A.in1 (callAny (.ref x) ⟨[.bytes b t], [(PySem.Str.ofString "byteorder", .str (PySem.Str.ofString "big") u)]⟩) _ _ s
  simp only [callAny]
  refine wpAny_bind (wpAny_load ho ?_)
  simp only [KFB.bound, show (Value.type "builtin_function_or_method" == Value.type "method" || Value.type "builtin_function_or_method" == Value.type "builtin_function_or_method" || Value.type "builtin_function_or_method" == Value.type "method-wrapper") = true by decide, if_true]
  refine KFB.if_so (by decide) ?_
  refine wpAny_bind (wpAny_of_eq (a := ()) fb_check ?_)
  refine wpAny_bind (wpAny_pure (wpAny_pure ?_))
  exact ⟨KFB.quiet_fb, codeAny_builtin KFB.entry_fb (fb_tree (by rw [← KBw.ints_length]; exact hl) (h _ _))⟩
end
end R
end Mine
-- R5
namespace Mine
namespace R
open Builtin
theorem ri_no_bytes : typeLookup (.type "list_reverseiterator") "__bytes__" = pure none := by rw [typeLookup_type, builtinLookup_eq_fast]; kernel_rfl
theorem ri_no_index : typeLookup (.type "list_reverseiterator") "__index__" = pure none := by rw [typeLookup_type, builtinLookup_eq_fast]; kernel_rfl
theorem ri_no_buffer : typeLookup (.type "list_reverseiterator") "__buffer__" = pure none := by rw [typeLookup_type, builtinLookup_eq_fast]; kernel_rfl
theorem ri_no_len : typeLookup (.type "list_reverseiterator") "__len__" = pure none := by rw [typeLookup_type, builtinLookup_eq_fast]; kernel_rfl
theorem ri_hint : typeLookup (.type "list_reverseiterator") "__length_hint__" = pure (some (.builtin "list_reverseiterator.__length_hint__")) := by rw [typeLookup_type, builtinLookup_eq_fast]; kernel_rfl
theorem ri_split : splitId "list_reverseiterator.__length_hint__" = some ("list_reverseiterator", "__length_hint__") := by decide +kernel
theorem ri_sub : isSubtype (.type "list_reverseiterator") (.type "list_reverseiterator") = pure true := by rw [isSubtype_type]; kernel_rfl
section
variable {prog : Program} {w : World} {A : Around} {E : Value → Shared → Prop} {s : Shared}
theorem bw_loop {R : Result → Shared → Prop} {I S : Addr} {fp wr : List Addr} {ns : List Int} {P : Nat → Value → Prop} {St : Nat → Heap → Prop} (W : Walks prog w A.in1 I fp wr ns.length P St) (hP : ∀ i v, i < ns.length → P i v → ∃ t, v = .int (ns.getD i 0) t) (hr : ∀ n ∈ ns, 0 ≤ n ∧ n < 256) (hz : ns.length ≤ sizeLine) (hS : S ∉ fp) :
    ∀ (k i : Nat) (s : Shared), ns.length - i = k → i ≤ ns.length → St i s.heap → s.heap.get? S = some { cls := .type "bytearray", data := .bytearray (byteArr (ns.take i)) } →
      (∀ h' t k', (∀ b o, b ∉ wr → b ≠ S → s.heap.get? b = some o → h'.get? b = some o) → R (.ok (.ret (.bytes (byteArr ns) t))) { s with heap := h', toks := k' }) →
      codeAny (model prog w) A (.builtin "bytes.__new__.loop" ⟨[.type "bytes", .ref I, .ref S], []⟩) R s := by
  intro k
  induction k with
  | zero =>
    intro i s hk hle hst hSv hR
    have hin : i = ns.length := by omega
    subst hin
    refine codeAny_builtin F.bm_entry_loop ?_
    rw [Around.under_plainId F.bm_plain_loop _]
    show wpAny _ A.in1 (pyNext (.ref I) >>= _) _ _ s
    refine wpAny_bind (W.done s _ _ hst fun h' tk he => ?_)
    have hS' : h'.get? S = some { cls := .type "bytearray", data := .bytearray (byteArr (ns.take ns.length)) } := he S _ (fun h => hS (W.sub _ h)) hSv
    refine wpAny_bind ?_
    unfold Builtin.Bytes.payload Builtin.Bytes.payload?
    refine wpAny_bind (wpAny_bind (wpAny_load hS' ?_))
    refine wpAny_pure (wpAny_pure ?_)
    rw [List.take_length]
    refine wpAny_bind (wpAny_mkBytes ?_ (by rw [byteArr_size]; exact hz))
    show wpAny _ _ (if (Value.type "bytes" == Value.type "bytes") = true then _ else _) _ _ _
    refine bm_if_true (by decide) ?_
    first
      | exact wpAny_pure (hR h' _ _ fun b o hb _ e => he b o hb e)
      | exact wpAny_bind (wpAny_pure (wpAny_pure (hR h' _ _ fun b o hb _ e => he b o hb e)))
  | succ k ih =>
    intro i s hk hle hst hSv hR
    have hlt : i < ns.length := by omega
    have hn : ns[i]? = some (ns.getD i 0) := by
      rw [List.getD_eq_getElem?_getD, List.getElem?_eq_getElem hlt]
      rfl
    obtain ⟨h0, h1⟩ := hr (ns.getD i 0) (List.mem_of_getElem? hn)
    refine codeAny_builtin F.bm_entry_loop ?_
    rw [Around.under_plainId F.bm_plain_loop _]
    show wpAny _ A.in1 (pyNext (.ref I) >>= _) _ _ s
    refine wpAny_bind (W.item i s _ _ hlt hst fun v h' tk hv hst' hs => ?_)
    obtain ⟨t, rfl⟩ := hP i v hlt hv
    have hS' : h'.get? S = some { cls := .type "bytearray", data := .bytearray (byteArr (ns.take i)) } := hs S _ (fun h => hS (W.sub _ h)) hSv
    refine wpAny_bind (wpAny_holding (wpAny_of_eq (rfl : asIndex (.int (ns.getD i 0) t) = pure (ns.getD i 0)) ?_))
    refine wpAny_bind (wpAny_letGo ?_)
    refine bm_if_false (by simp only [Bool.or_eq_false_iff, decide_eq_false_iff_not]; omega) ?_
    refine wpAny_bind ?_
    show wpAny _ _ (updateBytearray S (·.push (ns.getD i 0).toNat.toUInt8)) _ _ _
    unfold updateBytearray
    refine wpAny_bind (wpAny_load hS' ?_)
    show wpAny _ _ (update S (Obj.mapBytearray (·.push (ns.getD i 0).toNat.toUInt8)) >>= fun _ => lookBehind S) _ _ _
    refine wpAny_bind (wpAny_update hS' ?_)
    have hS₂ : (h'.update S (Obj.mapBytearray (·.push (ns.getD i 0).toNat.toUInt8))).get? S = some { cls := .type "bytearray", data := .bytearray (byteArr (ns.take (i + 1))) } := by
      rw [byteArr_take hn]
      exact Heap.get?_update_self (Obj.mapBytearray (·.push (ns.getD i 0).toNat.toUInt8)) hS' rfl
    refine wpAny_lookBehind hS₂ ?_ ?_
    · show (if (byteArr (ns.take (i + 1))).size > sizeLine then some "bytearray:memory" else none) = none
      rw [if_neg]
      rw [byteArr_size, List.length_take]
      omega
    · refine wpAny_pure ⟨plainId_quiet F.bm_plain_loop _, ih (i + 1) { s with heap := h'.update S (Obj.mapBytearray (·.push (ns.getD i 0).toNat.toUInt8)), toks := tk } (by omega) hlt ?_ hS₂ fun h3 t' k' hk3 => ?_⟩
      · exact W.frame _ _ _ hst' fun b hb o e => (Heap.get?_update_other _ _ (fun q => hS (by rw [q]; exact hb))).trans e
      · exact hR h3 t' k' fun b o hbI hbS e => hk3 b o hbI hbS ((Heap.get?_update_other _ _ (Ne.symm hbS)).trans (hs b o hbI e))
theorem bw_new {l I : Addr} {vs : List Value} {ns : List Int} {Q : Value → Shared → Prop} (hh : A.handled = none) (hl : s.heap.IsList l vs.toArray) (hI : s.heap.get? I = some (revObj l ((vs.length : Int) - 1))) (hlI : l ≠ I) (hi : IntsAre vs ns) (hr : ∀ n ∈ ns, 0 ≤ n ∧ n < 256) (hz : ns.length ≤ sizeLine)
    (hQ : ∀ h' t k, (∀ b o, b ≠ I → s.heap.get? b = some o → h'.get? b = some o) → Q (.bytes (byteArr ns.reverse) t) { s with heap := h', toks := k }) :
    codeAny (model prog w) A (.call (.builtin "bytes.__new__") ⟨[.type "bytes", .ref I], []⟩) (wants Q E) s := by
  have hlen : vs.length = ns.length := hi.length
  have hrev : s.heap.IsRevIter I l ((vs.length : Int) - 1) := ⟨_, hI, rfl, rfl⟩
  have hT : s.TypeIs (.ref I) "list_reverseiterator" := hrev.typeIs
  refine codeAny_of_tree ?_
  show wpAny _ A.in1 (do checkBuiltinCall "bytes.__new__" ⟨[.type "bytes", .ref I], []⟩; again (.builtin "bytes.__new__" ⟨[.type "bytes", .ref I], []⟩)) _ _ s
  refine wpAny_bind (wpAny_of_eq (F.bm_newCall _) (wpAny_pure ⟨plainId_quiet F.bm_plain _, codeAny_builtin F.bm_entry ?_⟩))
  rw [Around.under_plainId F.bm_plain _]
  unfold Builtin.«bytes.__new__»
  refine wpAny_bind (wpAny_of_eq (a := true) rfl ?_)
  refine bm_if_false rfl ?_
  refine wpAny_bind (wpAny_of_eq F.bm_sub ?_)
  refine bm_if_false rfl ?_
  refine wpAny_bind (wpAny_of_eq (F.bm_bind _) ?_)
  refine wpAny_bind (wpAny_of_eq (a := ()) rfl ?_)
  refine wpAny_bind (wpAny_of_eq (a := ()) rfl ?_)
  refine bm_if_false rfl ?_
  refine wpAny_bind (wpAny_specialOf hT ri_no_bytes ?_)
  refine wpAny_bind (wpAny_bind ?_)
  show wpAny _ _ (load I >>= _) _ _ _
  refine wpAny_bind (wpAny_load hI ?_)
  refine wpAny_pure (wpAny_pure ?_)
  refine bm_if_false rfl ?_
  refine wpAny_bind (wpAny_specialOf hT ri_no_index ?_)
  refine bm_if_true rfl ?_
  first
    | show wpAny _ _ (Builtin.Bytes.buffer? "bytes.__new__" (.ref I) true >>= _) _ _ _
    | (refine wpAny_bind ?_; show wpAny _ _ (Builtin.Bytes.buffer? "bytes.__new__" (.ref I) true >>= _) _ _ _)
  refine wpAny_bind ?_
  unfold Builtin.Bytes.buffer?
  refine wpAny_bind (wpAny_specialOf hT ri_no_buffer ?_)
  refine wpAny_bind (wpAny_specialOf hT ri_no_buffer ?_)
  refine wpAny_pure ?_
  refine wpAny_bind (wpAny_tryCatch (wpAny_pyIter_revIter hrev ?_))
  refine wpAny_bind (wpAny_holding ?_)
  unfold Builtin.Bytes.lengthHint
  refine wpAny_bind (wpAny_specialOf hT ri_no_len ?_)
  dsimp only
  refine bm_if_false rfl ?_
  refine bm_if_false rfl ?_
  refine wpAny_bind (wpAny_specialOf hT ri_hint ?_)
  dsimp only
  rw [ri_split]
  dsimp only
  refine wpAny_bind (wpAny_isInstance hT ri_sub ?_)
  refine bm_if_false rfl ?_
  refine bm_if_true (by decide +kernel) ?_
  refine bm_if_false (by decide) ?_
  refine wpAny_pure ?_
  refine wpAny_bind ?_
  unfold Builtin.Bytes.newBytearray
  refine wpAny_newObj_type ?_ (Nat.zero_le _)
  have hne : ∀ b, b ∈ [I, l] → s.heap.objs.size ≠ b := fun b hb e => by
    rcases List.mem_cons.mp hb with rfl | hb
    · exact absurd (Heap.lt_size hI) (by rw [e]; exact Nat.lt_irrefl _)
    · rw [List.mem_singleton.mp hb] at e
      obtain ⟨o, ho, _⟩ := id hl
      exact absurd (Heap.lt_size ho) (by rw [e]; exact Nat.lt_irrefl _)
  have W := Walks.listRev (prog := prog) (w := w) (A := A.in1) hh I l hlI vs.toArray
  have hsz : vs.toArray.size = ns.reverse.length := by simp [hlen]
  have hP : ∀ i v, i < ns.reverse.length → vs.toArray[vs.toArray.size - 1 - i]? = some v → ∃ t, v = .int (ns.reverse.getD i 0) t := by
    intro i v hiL hv
    obtain ⟨n, t, rfl, hn⟩ := IntsAre.at hi (vs.length - 1 - i) v (by simpa using hv)
    refine ⟨t, ?_⟩
    rw [List.getD_eq_getElem?_getD, List.getElem?_reverse (by simpa using hiL), ← hlen, hn]
    rfl
  have main := bw_loop (prog := prog) (w := w) (A := A) (R := wants Q E) (ns := ns.reverse) (P := fun i v => vs.toArray[vs.toArray.size - 1 - i]? = some v) (St := fun i h => i ≤ vs.toArray.size ∧ h.IsRevIter I l ((vs.toArray.size : Int) - 1 - (i : Int)) ∧ h.IsList l vs.toArray) (S := s.heap.objs.size) (fp := [I, l]) (wr := [I]) (I := I) (by rw [← hsz]; exact W) hP (fun n hn => hr n (List.mem_reverse.mp hn)) (by rw [List.length_reverse]; exact hz) (fun hm => hne _ hm rfl)
    ns.reverse.length 0 { s with heap := s.heap.push { cls := .type "bytearray", data := .bytearray #[] } } rfl (Nat.zero_le _) ⟨Nat.zero_le _, ⟨_, Heap.get?_push_of_some _ hI, rfl, by simp [revObj]⟩, hl.push _⟩ (Heap.get?_push_size _ rfl)
    fun h' t k hk => hQ h' t k fun b o hb e => hk b o (by simpa using hb) (Nat.ne_of_lt (Heap.lt_size e)) (Heap.get?_push_of_some _ e)
  first
    | exact wpAny_pure ⟨plainId_quiet F.bm_plain_loop _, main⟩
    | exact wpAny_pure (wpAny_pure ⟨plainId_quiet F.bm_plain_loop _, main⟩)
theorem bw_call {h₀ : Heap} {L l I : Addr} {m : PySem.Str → Option Value} {news : List (Addr × Obj)} {vs : List Value} {ns : List Int} {Q : Value → Shared → Prop} (Fz : Fr h₀ L s.heap m) (N : News h₀ L s.heap ((I, revObj l ((vs.length : Int) - 1)) :: news)) (hoff : ∀ p ∈ news, p.1 ≠ I) (hl : s.heap.IsList l vs.toArray) (hlI : l ≠ I) (hi : IntsAre vs ns) (hr : ∀ n ∈ ns, 0 ≤ n ∧ n < 256) (hz : ns.length ≤ 16777216) (hh : A.handled = none)
    (h : ∀ h' t k, Fr h₀ L h' m → News h₀ L h' news → Q (.bytes (byteArr ns.reverse) t) { s with heap := h', toks := k }) : wpAny (model prog w) A (call (.type "bytes") [.ref I]) Q E s := by
  have hI := N (I, _) (.head _)
  refine callType_codes (Q₁ := fun obj s₁ => s₁.TypeIs obj "bytes" ∧ Q obj s₁) F.bm_called (F.bm_typeCall _) F.entry_object_init
    (bw_new hh hl hI.1 hlI hi hr (by rw [sizeLine_eq]; exact hz) fun h' t k hk => ⟨PySem.W.typeIs_bytes _ _ _, h h' t k ?_ ?_⟩) fun obj s₁ h₁ => ?_
  · obtain ⟨oL, a1, a2, hL, a3⟩ := Fz.ns
    exact ⟨⟨oL, a1, a2, hk _ _ (Ne.symm hI.2.1) hL, a3⟩, fun b o e => hk b o (fun q => by have := hI.2.2; rw [← q, e] at this; cases this) (Fz.keep b o e), Fz.above⟩
  · exact fun p hp => ⟨hk _ _ (hoff p hp) (N p (.tail _ hp)).1, (N p (.tail _ hp)).2⟩
  · exact ⟨h₁.1, F.args_object_init_2 obj _, object_init_meets F.bm_called.init.lookup F.bm_called.made (by decide) prog w A.in1 _ s₁ ⟨h₁.1, rfl, h₁.2⟩⟩
end
end R
end Mine
-- R6
namespace Mine
namespace R
open Builtin KBw PyProof.V
set_option maxHeartbeats 8000000 in
theorem meets_enumerate_newB (b : Array UInt8) (t : Tok) :
    Meets (Builtin.«enumerate.__new__» ⟨[.type "enumerate", .bytes b t], []⟩) (fun _ R s =>
      R (.ok (.ret (.ref (s.heap.push { cls := .type "bytes_iterator", data := .fields #[.bytes b t, .int 0 0] }).objs.size)))
        { s with heap := (s.heap.push { cls := .type "bytes_iterator", data := .fields #[.bytes b t, .int 0 0] }).push { cls := .type "enumerate", data := .fields #[.none, .bool false, .ref s.heap.objs.size, rawInt 0, .none, .none] } }) :=
  .of_wp fun prog w A R s h => by
    obtain ⟨hp, g, d, tk, os⟩ := s
    have hsub := sub_enumerate
    wp_walk
    refine wpAny_stack_any fun st => wpAny_pure ?_
    split
    · rename_i c _ _ _ _ _
      cases (c == Value.type "enumerate")
      · wp_walk using KBw.pyIter_bytes
        exact ⟨_, rfl, h⟩
      · wp_walk using KBw.pyIter_bytes
        exact ⟨_, rfl, h⟩
    · wp_walk using KBw.pyIter_bytes
      exact ⟨_, rfl, h⟩
section
variable {prog : Program} {w : World} {A : Around} {E : Value → Shared → Prop} {s : Shared}
theorem call_enumerate_bytes {b : Array UInt8} {t : Tok} {Q : Value → Shared → Prop}
    (h : ∀ h', IsEnum h' (s.heap.objs.size + 1) s.heap.objs.size 0 .none → IsBytesIter h' s.heap.objs.size b t 0 → h'.objs.size = s.heap.objs.size + 2 →
      (∀ b o, s.heap.get? b = some o → h'.get? b = some o) → Q (.ref (s.heap.objs.size + 1)) { s with heap := h' }) :
    wpAny (model prog w) A (call (.type "enumerate") [.bytes b t]) Q E s := by
  refine callType_new F.called_enumerate (by decide) (F.typeCall_enumerate_1 _) (F.newCall_enumerate_1 _) (fun obj => F.args_object_init_2 obj _) F.entry_enumerate_new
    (meets_enumerate_newB b t) ?_
  have hz : (s.heap.push { cls := .type "bytes_iterator", data := .fields #[.bytes b t, .int 0 0] }).objs.size = s.heap.objs.size + 1 := Heap.size_push ..
  show _ ∧ _
  rw [hz]
  have he : IsEnum ((s.heap.push { cls := .type "bytes_iterator", data := .fields #[.bytes b t, .int 0 0] }).push
      { cls := .type "enumerate", data := .fields #[.none, .bool false, .ref s.heap.objs.size, rawInt 0, .none, .none] }) (s.heap.objs.size + 1) s.heap.objs.size 0 .none := by
    have := Heap.get?_push_size (s.heap.push { cls := .type "bytes_iterator", data := .fields #[.bytes b t, .int 0 0] })
      (o := { cls := .type "enumerate", data := .fields #[.none, .bool false, .ref s.heap.objs.size, rawInt 0, .none, .none] }) rfl
    rw [hz] at this; exact this
  refine ⟨⟨_, he, rfl⟩, h _ he ⟨_, Heap.get?_push_of_some _ (Heap.get?_push_size _ rfl), rfl, rfl⟩ (by rw [Heap.size_push, hz]) fun b o y => Heap.get?_push_of_some _ (Heap.get?_push_of_some _ y)⟩
theorem nextOfB_item {it : Addr} {b : Array UInt8} {t : Tok} {i : Nat} {c : UInt8} {Q : Value → Shared → Prop} (hit : IsBytesIter s.heap it b t i) (hx : b[i]? = some c)
    (hQ : ∀ h', IsBytesIter h' it b t (i + 1) → Heap.SameBut it s.heap h' → Q (.int (c.toNat : Int) s.toks) { s with heap := h', toks := s.toks + 1 }) :
    wpAny (model prog w) A (Builtin.SmallTypes.nextOf (.ref it)) Q E s := by
  obtain ⟨o, ho, hc, hd⟩ := id hit
  unfold Builtin.SmallTypes.nextOf
  refine wpAny_bind (wpAny_callSpecial?_slot (name := PySem.Str.ofString "__next__") (iter_typeIs hit) slot_next
    (wpAny_call_entry slot_next (iter_typeIs hit) entry_next ?_ (args_next _)))
  show wpAny _ _ (field (.ref it) 0 >>= _) _ _ s
  refine wpAny_bind (wpAny_field ho hd (x := .bytes b t) rfl ?_)
  show wpAny _ _ (if (Value.bytes b t == Value.none) = true then _ else _) _ _ s
  rw [if_neg (show ¬ ((Value.bytes b t == Value.none) = true) from Bool.false_ne_true)]
  show wpAny _ _ (field (.ref it) 1 >>= _) _ _ s
  refine wpAny_bind (wpAny_field ho hd (x := .int i 0) rfl ?_)
  refine wpAny_bind (wpAny_of_eq (a := b) rfl ?_)
  simp only [Int.toNat_natCast, hx]
  refine wpAny_bind (wpAny_setField ho hd (by simp) (wpAny_bind (wpAny_mkInt (wpAny_pure ⟨_, rfl, wpAny_pure (hQ _ ?_ (Heap.SameBut.update ..))⟩))))
  exact ⟨_, Heap.get?_update_self _ ho (Obj.isFreed_of_fields (Obj.data_mapFields hd _)), (Obj.cls_mapFields ..).trans hc, by
    rw [Obj.data_mapFields hd]; simp [rawInt]⟩
theorem nextOfB_end {it : Addr} {b : Array UInt8} {t : Tok} {i : Nat} {Q : Value → Shared → Prop} (hh : A.handled = none) (hit : IsBytesIter s.heap it b t i) (hx : b[i]? = none)
    (hE : ∀ h' e, Heap.ExtBut it s.heap h' → (∃ o, h'.get? e = some o ∧ o.cls = .type "StopIteration") → E (.ref e) { s with heap := h' }) :
    wpAny (model prog w) A (Builtin.SmallTypes.nextOf (.ref it)) Q E s := by
  obtain ⟨o, ho, hc, hd⟩ := id hit
  unfold Builtin.SmallTypes.nextOf
  refine wpAny_bind (wpAny_callSpecial?_slot (name := PySem.Str.ofString "__next__") (iter_typeIs hit) slot_next
    (wpAny_call_entry slot_next (iter_typeIs hit) entry_next ?_ (args_next _)))
  show wpAny _ _ (field (.ref it) 0 >>= _) _ _ s
  refine wpAny_bind (wpAny_field ho hd (x := .bytes b t) rfl ?_)
  show wpAny _ _ (if (Value.bytes b t == Value.none) = true then _ else _) _ _ s
  rw [if_neg (show ¬ ((Value.bytes b t == Value.none) = true) from Bool.false_ne_true)]
  show wpAny _ _ (field (.ref it) 1 >>= _) _ _ s
  refine wpAny_bind (wpAny_field ho hd (x := .int i 0) rfl ?_)
  refine wpAny_bind (wpAny_of_eq (a := b) rfl ?_)
  simp only [Int.toNat_natCast, hx]
  refine wpAny_bind (wpAny_rule (wpAny_bind (wpAny_setField ho hd (by simp) ?_)))
  show wpAny _ _ (newExc (.type "StopIteration") [] >>= _) _ _ _
  refine wpAny_bind ?_
  simp only [newExc, newTuple]
  refine wpAny_bind (wpAny_newObj_type ?_ (by size_fits))
  refine wpAny_bind (m := firstArgMember _ _) (wpAny_of_eq (a := Value.none) (by first | rfl | (simp only [firstArgMember]; rfl)) ?_)
  refine wpAny_newObj_type ?_ (by size_fits)
  simp only [raiseNew]
  refine wpAny_bind (wpAny_handled ?_)
  first | rw [show A.in1.handled = none from hh] | rw [hh]
  refine wpAny_bind (wpAny_pure (wpAny_throw ?_))
  exact hE _ _ (((Heap.SameBut.update ..).extBut.push _).push _) ⟨_, Heap.get?_push_size _ rfl, rfl⟩
theorem biter_ext {h h' : Heap} {it e : Addr} {b : Array UInt8} {t : Tok} {i : Nat} (x : IsBytesIter h it b t i) (hs : Heap.ExtBut e h h') (hne : it ≠ e) : IsBytesIter h' it b t i :=
  let ⟨o, ho, r⟩ := x; ⟨o, hs it o hne ho, r⟩
theorem enumerateB_next_item {e it : Addr} {i : Nat} {b : Array UInt8} {t : Tok} {c : UInt8} {old : Value} {Q : Value → Shared → Prop}
    (he : IsEnum s.heap e it i old) (hit : IsBytesIter s.heap it b t i) (hx : b[i]? = some c) (hne : e ≠ it)
    (hQ : ∀ h', IsEnumOut h' e it ((i : Int) + 1) (.int (c.toNat : Int) s.toks) s.heap.objs.size → IsBytesIter h' it b t (i + 1) →
      h'.get? s.heap.objs.size = some { cls := .type "tuple", data := .seq #[.int i (s.toks + 1), .int (c.toNat : Int) s.toks] } → h'.objs.size = s.heap.objs.size + 1 →
      (∀ b o, b ≠ e → b ≠ it → s.heap.get? b = some o → h'.get? b = some o) → Q (.ref s.heap.objs.size) { s with heap := h', toks := s.toks + 1 + 1 }) :
    wpAny (model prog w) A (Builtin.«enumerate.__next__» ⟨[.ref e], []⟩) (fun fin s' => ∃ v, fin = .done (.ret v) ∧ Q v s') E s := by
  obtain ⟨hp, g, d, tk, os⟩ := s
  show wpAny _ _ (field (.ref e) 2 >>= _) _ _ _
  refine wpAny_bind (wpAny_field he rfl (x := .ref it) rfl ?_)
  refine wpAny_bind (nextOfB_item hit hx fun h₁ hit₁ hs₁ => ?_)
  replace hs₁ : Heap.SameBut it hp h₁ := hs₁
  have he₁ : IsEnum h₁ e it i old := (hs₁.2 e hne).trans he
  show wpAny _ _ (field (.ref e) 3 >>= _) _ _ ⟨h₁, g, d, tk + 1, os⟩
  refine wpAny_bind (wpAny_field he₁ rfl (x := rawInt i) rfl ?_)
  show wpAny _ _ (field (.ref e) 4 >>= _) _ _ ⟨h₁, g, d, tk + 1, os⟩
  refine wpAny_bind (wpAny_field he₁ rfl (x := .none) rfl ?_)
  show wpAny _ _ (mkInt i >>= _) _ _ ⟨h₁, g, d, tk + 1, os⟩
  refine wpAny_bind (wpAny_mkInt ?_)
  show wpAny _ _ (setField (.ref e) 3 (rawInt ((i : Int) + 1)) >>= _) _ _ ⟨h₁, g, d, tk + 1 + 1, os⟩
  refine wpAny_bind (wpAny_setField_rec he₁ (by simp) fun h₂ he₂ hs₂ => ?_)
  replace hs₂ : Heap.SameBut e h₁ h₂ := hs₂
  replace he₂ : IsEnum h₂ e it ((i : Int) + 1) old := he₂
  show wpAny _ _ (setField (.ref e) 4 .none >>= _) _ _ ⟨h₂, g, d, tk + 1 + 1, os⟩
  refine wpAny_bind (wpAny_setField_rec he₂ (by simp) fun h₃ he₃ hs₃ => ?_)
  replace hs₃ : Heap.SameBut e h₂ h₃ := hs₃
  replace he₃ : IsEnum h₃ e it ((i : Int) + 1) old := he₃
  show wpAny _ _ (newTuple [.int i (tk + 1), .int (c.toNat : Int) tk] >>= _) _ _ ⟨h₃, g, d, tk + 1 + 1, os⟩
  refine wpAny_bind (wpAny_newTuple ?_)
  have he₄ : IsEnum (h₃.push { cls := .type "tuple", data := .seq #[.int i (tk + 1), .int (c.toNat : Int) tk] }) e it ((i : Int) + 1) old := Heap.get?_push_of_some _ he₃
  generalize hh₄ : h₃.push { cls := .type "tuple", data := .seq #[.int i (tk + 1), .int (c.toNat : Int) tk] } = h₄ at he₄
  have hsz : h₃.objs.size = hp.objs.size := by rw [hs₃.1, hs₂.1, hs₁.1]
  have hel : e < hp.objs.size := Heap.lt_size he
  have ht₄ : h₄.get? hp.objs.size = some { cls := .type "tuple", data := .seq #[.int i (tk + 1), .int (c.toNat : Int) tk] } := by rw [← hh₄, ← hsz]; exact Heap.get?_push_size _ rfl
  have hz₄ : h₄.objs.size = hp.objs.size + 1 := by rw [← hh₄, Heap.size_push, hsz]
  have hk₄ : ∀ b o, b ≠ e → b ≠ it → hp.get? b = some o → h₄.get? b = some o := fun b o hbe hbi hb => by
    rw [← hh₄]; exact Heap.get?_push_of_some _ (hs₃.extBut b o hbe (hs₂.extBut b o hbe (hs₁.extBut b o hbi hb)))
  have hit₄ : IsBytesIter h₄ it b t (i + 1) := by
    rw [← hh₄]; obtain ⟨o, ho, r⟩ := biter_ext (biter_ext hit₁ hs₂.extBut (Ne.symm hne)) hs₃.extBut (Ne.symm hne); exact ⟨o, Heap.get?_push_of_some _ ho, r⟩
  show wpAny _ _ (Builtin.SmallTypes.ownedTupleIsFree (.ref e) >>= _) _ _ ⟨h₄, g, d, tk + 1 + 1, os⟩
  rw [hsz]
  clear hh₄ he₃ hs₃ he₂ hs₂ he₁ hs₁ hit₁ hsz h₃ h₂ h₁
  refine wpAny_bind ?_
  · unfold Builtin.SmallTypes.ownedTupleIsFree
    refine wpAny_bind (wpAny_field he₄ rfl (x := .none) rfl (wpAny_pure ?_))
    simp only [if_true]
    refine wpAny_bind (wpAny_rule ?_)
    refine wpAny_bind (wpAny_field he₄ rfl (x := old) rfl ?_)
    refine wpAny_bind (wpAny_setField_rec he₄ (by simp) fun h₅ he₅ hs₅ => ?_)
    replace hs₅ : Heap.SameBut e h₄ h₅ := hs₅
    replace he₅ : IsEnum h₅ e it ((i : Int) + 1) (.int (c.toNat : Int) tk) := he₅
    show wpAny _ _ (Builtin.SmallTypes.ownedTupleHandOut (.ref e) (.ref hp.objs.size) >>= _) _ _ ⟨h₅, g, d, tk + 1 + 1, os⟩
    refine wpAny_bind ?_
    · unfold Builtin.SmallTypes.ownedTupleHandOut
      refine wpAny_bind (wpAny_setField_rec he₅ (by simp) fun h₆ he₆ hs₆ => ?_)
      replace hs₆ : Heap.SameBut e h₅ h₆ := hs₆
      replace he₆ : IsEnumOut h₆ e it ((i : Int) + 1) (.int (c.toNat : Int) tk) hp.objs.size := he₆
      refine wpAny_setField_rec he₆ (by simp) fun h₇ he₇ hs₇ => ?_
      replace hs₇ : Heap.SameBut e h₆ h₇ := hs₇
      replace he₇ : IsEnumOut h₇ e it ((i : Int) + 1) (.int (c.toNat : Int) tk) hp.objs.size := he₇
      refine wpAny_bind (wpAny_letGo (wpAny_pure ⟨_, rfl, hQ h₇ he₇ ?_ ?_ ?_ ?_⟩))
      · exact biter_ext (biter_ext (biter_ext hit₄ hs₅.extBut (Ne.symm hne)) hs₆.extBut (Ne.symm hne)) hs₇.extBut (Ne.symm hne)
      · exact hs₇.extBut _ _ (Nat.ne_of_gt hel) (hs₆.extBut _ _ (Nat.ne_of_gt hel) (hs₅.extBut _ _ (Nat.ne_of_gt hel) ht₄))
      · rw [hs₇.1, hs₆.1, hs₅.1, hz₄]
      · exact fun b o hbe hbi hb => hs₇.extBut b o hbe (hs₆.extBut b o hbe (hs₅.extBut b o hbe (hk₄ b o hbe hbi hb)))
theorem pyNext_enumB_item {e it : Addr} {i : Nat} {b : Array UInt8} {t : Tok} {c : UInt8} {old : Value} {Q : Option Value → Shared → Prop}
    (he : IsEnum s.heap e it i old) (hit : IsBytesIter s.heap it b t i) (hx : b[i]? = some c) (hne : e ≠ it)
    (hQ : ∀ h', IsEnumOut h' e it ((i : Int) + 1) (.int (c.toNat : Int) s.toks) s.heap.objs.size → IsBytesIter h' it b t (i + 1) →
      h'.get? s.heap.objs.size = some { cls := .type "tuple", data := .seq #[.int i (s.toks + 1), .int (c.toNat : Int) s.toks] } → h'.objs.size = s.heap.objs.size + 1 →
      (∀ b o, b ≠ e → b ≠ it → s.heap.get? b = some o → h'.get? b = some o) → Q (some (.ref s.heap.objs.size)) { s with heap := h', toks := s.toks + 1 + 1 }) :
    wpAny (model prog w) A (pyNext (.ref e)) Q E s := by
  have hT : s.TypeIs (.ref e) "enumerate" := ⟨_, he, rfl⟩
  unfold pyNext
  exact wpAny_bind (wpAny_attempt (wpAny_callSpecial?_slot (name := PySem.Str.ofString "__next__") hT F.slot_enumerate_next
    (wpAny_call_entry F.slot_enumerate_next hT F.entry_enumerate_next
      (enumerateB_next_item he hit hx hne fun h' a b c d k => wpAny_pure (hQ h' a b c d k)) (F.args_enumerate_next_1 _))))
theorem pyNext_enumB_end {e it : Addr} {i : Nat} {b : Array UInt8} {t : Tok} {old : Value} {Q : Option Value → Shared → Prop} (hh : A.handled = none)
    (he : IsEnum s.heap e it i old) (hit : IsBytesIter s.heap it b t i) (hx : b[i]? = none)
    (hQ : ∀ h', Heap.ExtBut it s.heap h' → Q none { s with heap := h' }) : wpAny (model prog w) A (pyNext (.ref e)) Q E s := by
  have hT : s.TypeIs (.ref e) "enumerate" := ⟨_, he, rfl⟩
  unfold pyNext
  refine wpAny_bind (wpAny_attempt (wpAny_callSpecial?_slot (name := PySem.Str.ofString "__next__") hT F.slot_enumerate_next
    (wpAny_call_entry F.slot_enumerate_next hT F.entry_enumerate_next ?_ (F.args_enumerate_next_1 _))))
  show wpAny _ _ (field (.ref e) 2 >>= _) _ _ _
  refine wpAny_bind (wpAny_field he rfl (x := .ref it) rfl ?_)
  refine wpAny_bind (nextOfB_end hh hit hx fun h' x he' hx' => ?_)
  obtain ⟨o, ho, hc⟩ := hx'
  refine wpAny_bind (wpAny_isInstance (T := "StopIteration") (b := true) ⟨o, ho, hc⟩ isSubtype_stop ?_)
  exact wpAny_pure (hQ _ he')
/-- the loop of a dict comprehension whose target takes a tuple apart -/
theorem dc_loop {kx vx target iter : PySem.Expr} {scope : Scope} {pos : Pos} {it : Value} {D : Addr} {env : Env} {R : Result → Shared → Prop} (I : Nat → Shared → Prop)
    (turn : ∀ n s, I n s → wpAny (model prog w) A (pyNext it) (fun r s₁ => match r with
      | none => R (.ok .next) s₁
      | some v => wpAny (model prog w) A (letOwnedTupleGo target it v) (fun _ s₀ => wpAny (model prog w) A (assign target env v) (fun _ s₂ =>
          wpAny (model prog w) A (eval kx env) (fun kv s₄ => wpAny (model prog w) A (eval vx env) (fun vv s₅ =>
            wpAny (model prog w) A (dictSet D kv vv) (fun _ s₆ => ∃ m, m < n ∧ I m s₆) (notedBy (model prog w) A env fun e s' => R (.error e) s') s₅) (notedBy (model prog w) A env fun e s' => R (.error e) s') s₄) (notedBy (model prog w) A env fun e s' => R (.error e) s') s₂)
          (notedBy (model prog w) A env fun e s' => R (.error e) s') s₀) (notedBy (model prog w) A env fun e s' => R (.error e) s') s₁) (notedBy (model prog w) A env fun e s' => R (.error e) s') s)
    (n : Nat) (h : I n s) : codeAny (model prog w) A (.compLoop (.DictComp kx vx [⟨target, iter, [], 0⟩] scope pos) 0 it (.ref D) env) R s := by
  refine codeAny_loop rfl I (fun n s hI => ?_) n h
  show wpAny _ A ((compTurn (.DictComp kx vx [⟨target, iter, [], 0⟩] scope pos) 0 it (.ref D) env).onRaise (fun x => do noteFrame x env; theTreesLotGoes x)) _ _ s
  refine wpAny_noted ?_
  rw [compTurn_dict]
  refine wpAny_bind (wpAny_standAt (wpAny_bind (wpAny_mono (turn n s hI) (fun r s₁ h₁ => ?_) fun _ _ h' => h')))
  cases r with
  | none => exact wpAny_pure h₁
  | some v =>
    refine wpAny_bind (wpAny_mono h₁ (fun _ s₀ h₀' => ?_) fun _ _ h' => h')
    refine wpAny_bind (wpAny_mono h₀' (fun _ s₂ h₂ => ?_) fun _ _ h' => h')
    refine wpAny_bind (wpAny_tests_nil ?_)
    exact wpAny_bind (wpAny_bind (wpAny_mono h₂ (fun kv s₄ h₄ => wpAny_bind (wpAny_holding (wpAny_mono h₄ (fun vv s₅ h₅ => wpAny_bind (wpAny_standAt (wpAny_holding (wpAny_mono h₅ (fun _ s₆ h₆ => wpAny_pure ⟨rfl, h₆⟩) fun _ _ h' => h')))) fun _ _ h' => h'))) fun _ _ h' => h'))
end
end R
end Mine
-- R7
namespace Mine
namespace R
open Builtin KBw PyProof.V
def invI (ks : List Int) : Nat → List (Int × Int)
  | 0 => []
  | i + 1 => kdfPut (invI ks i) (ks.getD i 0) (i : Int)
theorem invI_len (ks : List Int) : ∀ i, (invI ks i).length ≤ i
  | 0 => Nat.le_refl _
  | i + 1 => Nat.le_trans (kdfPut_len _ _ _) (Nat.succ_le_succ (invI_len ks i))
theorem assign_rule {M : Model} {A : Around} {E : Value → Shared → Prop} {s : Shared} {env : Env} {x : PySem.Str} {pos' pos : Pos} {value : PySem.Expr} {Q : Flow → Shared → Prop} (hs : swapsWith value (some (.Name x pos')) pos.line env = pure false)
    (h : wpAny M A (eval value env) (fun v s' => wpAny M A (storeName env x v) (fun _ s'' => Q .next s'') E s') E s) : wpAny M A (exec (.Assign [.Name x pos'] value pos) env) Q E s := by
  rw [exec_Assign_Name _ _ _ _ _ hs]
  exact wpAny_bind (wpAny_standAt (wpAny_bind (wpAny_mono h (fun v s' h' => wpAny_bind (wpAny_standAt (wpAny_bind (wpAny_bindName (wpAny_mono h' (fun _ _ h'' => wpAny_pure h'') fun _ _ x => x))))) fun _ _ x => x)))
section
variable {prog : Program} {w : World} {A : Around} {E : Value → Shared → Prop} {h₀ : Heap} {L : Addr} {m : PySem.Str → Option Value} {env : Env}
theorem dc_block {iter : PySem.Expr} {a b : PySem.Str} {pa pb pk pv tp : Pos} {kk : Nat} {scope : Scope} {cl : List (PySem.Str × Addr)} {pos : Pos} {s₂ : Shared} {e it : Addr} {B : Array UInt8} {t : Tok} {ks : List Int} {news : List (Addr × Obj)} {RR : Value → Addr → Result → Shared → Prop}
    (hb : KBw.bInts B = ks) (hz : ks.length ≤ 16777216) (hh : A.handled = none) (hne : e ≠ it)
    (he : IsEnum s₂.heap e it 0 .none) (hit : IsBytesIter s₂.heap it B t 0)
    (hcell : ∀ y ∈ scope.names, y.2 ≠ .cell) (hkind : scope.kind = .function) (hxa : scope.names.lookup a = some .local) (hxb : scope.names.lookup b = some .local) (hab : ¬ a = b)
    (hda : (a == ("__debug__" : PySem.Str)) = false) (hdb : (b == ("__debug__" : PySem.Str)) = false)
    (F : Fr h₀ L s₂.heap m) (N : News h₀ L s₂.heap news) (heL : L ≠ e) (hiL : L ≠ it) (he₀ : h₀.get? e = none) (hi₀ : h₀.get? it = none) (off : ∀ p ∈ news, p.1 ≠ e ∧ p.1 ≠ it)
    (hRR : ∀ D C h tk m' o kvs, o.IsDictOf (PySem.intKind prog w) kvs → FlatPairs PyData.int kvs (kdfD (invI ks ks.length)) → Fr h₀ L h m → News h₀ L h ((D, o) :: news) → L < D → (∀ p ∈ news, p.1 ≠ D) → h.Ns C m' → h₀.get? C = none → h₀.get? D = none → C ≠ L → D ≠ L → C ≠ D → (∀ p ∈ news, p.1 ≠ C) → RR (.ref D) C (.ok .next) { s₂ with heap := h, toks := tk }) :
    wpAny (model prog w) A newDict (fun acc s₃ => wpAny (model prog w) A (newFunctionEnv scope env.globals cl [] env.qual none .none (some env)) (fun cenv s₄ =>
      codeAny (model prog w) A (.compStart (.DictComp (.Name b pk) (.Name a pv) [⟨.Tuple [.Name a pa, .Name b pb] kk tp, iter, [], 0⟩] scope pos) 0 (.ref e) acc { cenv with scope := relabel scope env }) (RR acc cenv.locals) s₄) E s₃) E s₂ := by
  refine wpAny_newObj_type (wpAny_newFunctionEnv hcell (by intro y hy; simp at hy) (fun h₁ hns₁ hsb₁ => ?_) hkind)
  dsimp only at hns₁ hsb₁ ⊢
  have hnew : (s₂.heap.push { cls := .type "dict", dict := none, data := .dict #[] }).DictOf (PySem.intKind prog w) s₂.heap.objs.size [] := Heap.DictOf.new s₂.heap
  generalize hH2 : s₂.heap.push { cls := .type "dict", dict := none, data := .dict #[] } = H2 at hns₁ hsb₁ hnew ⊢
  have hC : H2.objs.size = s₂.heap.objs.size + 1 := by rw [← hH2, Heap.size_push]
  have hDC : s₂.heap.objs.size ≠ H2.objs.size := by rw [hC]; exact Nat.ne_of_lt (Nat.lt_succ_self _)
  have below : ∀ b, b < s₂.heap.objs.size → b ≠ H2.objs.size ∧ b ≠ s₂.heap.objs.size := fun b hb => ⟨by rw [hC]; exact Nat.ne_of_lt (Nat.lt_succ_of_lt hb), Nat.ne_of_lt hb⟩
  have helt : e < s₂.heap.objs.size := Heap.lt_size he
  have hilt : it < s₂.heap.objs.size := by obtain ⟨_, x, _⟩ := hit; exact Heap.lt_size x
  have old : ∀ b o, s₂.heap.get? b = some o → h₁.get? b = some o := fun b o e => hsb₁.extBut b o (below b (Heap.lt_size e)).1 (Heap.get?_push_of_some _ (hH2 ▸ Heap.get?_push_of_some _ e))
  have hacc : h₁.DictOf (PySem.intKind prog w) s₂.heap.objs.size [] := hnew.at fun o e => hsb₁.extBut _ _ hDC (Heap.get?_push_of_some _ e)
  have fresh : ∀ a, s₂.heap.objs.size ≤ a → s₂.heap.get? a = none := fun a ha => by
    cases e : s₂.heap.get? a with
    | none => rfl
    | some o' => exact absurd (Heap.lt_size e) (Nat.not_lt.mpr ha)
  have fresh₀ : ∀ a, s₂.heap.objs.size ≤ a → h₀.get? a = none := fun a ha => by
    cases e : h₀.get? a with
    | none => rfl
    | some o' => have := F.keep a o' e; rw [fresh a ha] at this; cases this
  have hD₀ : h₀.get? s₂.heap.objs.size = none := fresh₀ _ (Nat.le_refl _)
  have hC₀ : h₀.get? H2.objs.size = none := fresh₀ _ (by rw [hC]; exact Nat.le_succ _)
  have hLlt : L < s₂.heap.objs.size := F.ns.lt
  have hDL : s₂.heap.objs.size ≠ L := Ne.symm (below L hLlt).2
  have hCL : H2.objs.size ≠ L := Ne.symm (below L hLlt).1
  have hCe : e ≠ H2.objs.size := (below e helt).1
  have hDe : e ≠ s₂.heap.objs.size := (below e helt).2
  have hCi : it ≠ H2.objs.size := (below it hilt).1
  have hDi : it ≠ s₂.heap.objs.size := (below it hilt).2
  have offC : ∀ p ∈ news, p.1 ≠ H2.objs.size := fun p hp => (below _ (Heap.lt_size (N p hp).1)).1
  have offD : ∀ p ∈ news, p.1 ≠ s₂.heap.objs.size := fun p hp => (below _ (Heap.lt_size (N p hp).1)).2
  have hlenB : ks.length = B.size := by rw [← hb, KBw.ints_length]
  have he₁ : IsEnum h₁ e it 0 .none := old _ _ he
  have hit₁ : IsBytesIter h₁ it B t 0 := let ⟨o, ho, r⟩ := hit; ⟨o, old _ _ ho, r⟩
  generalize hCC : H2.objs.size = C at *
  generalize hDD : s₂.heap.objs.size = D at *
  have loop : ∀ s₃ : Shared, s₃ = { s₂ with heap := h₁, toks := s₂.toks + ([] : List (PySem.Str × Value)).length } →
      codeAny (model prog w) A (.compLoop (.DictComp (.Name b pk) (.Name a pv) [⟨.Tuple [.Name a pa, .Name b pb] kk tp, iter, [], 0⟩] scope pos) 0 (.ref e) (.ref D) (compEnvC scope cl C env))
        (RR (.ref D) C) s₃ := by
    rintro s₃ rfl
    refine dc_loop
      (fun k s' => ∃ h' tk i m' kvs old, s' = { s₂ with heap := h', toks := tk } ∧ i ≤ ks.length ∧ k = ks.length + 1 - i ∧ IsEnum h' e it ((i : Nat) : Int) old ∧ IsBytesIter h' it B t i ∧ Fr h₀ L h' m ∧ h'.Ns C m' ∧
        News h₀ L h' news ∧ h'.DictOf (PySem.intKind prog w) D kvs ∧ FlatPairs PyData.int kvs (kdfD (invI ks i))) ?_ (ks.length + 1)
      ⟨h₁, _, 0, _, [], .none, rfl, Nat.zero_le _, rfl, he₁, hit₁, F.keeps old, hns₁, fun p hp => ⟨old _ _ (N p hp).1, (N p hp).2⟩, hacc, .nil⟩
    · rintro k s' ⟨h', tk, i, m', kvs, ol, rfl, hi, rfl, he', hit', F', hn', N', hD', hf'⟩
      by_cases hlt : i < ks.length
      · have hlt' : i < B.size := by omega
        have hx : B[i]? = some B[i] := by simp [hlt']
        have hki : ks.getD i 0 = (B[i].toNat : Int) := by
          rw [List.getD_eq_getElem?_getD, ← hb, KBw.ints_get hx]
          rfl
        refine pyNext_enumB_item he' hit' hx hne fun h₂ ho₂ hit₂ ht₂ hz₂ hk₂ => ?_
        refine wpAny_letOwnedTupleGo_enum ho₂ fun h₃ he₃ hs₃ => ?_
        replace hs₃ : Heap.SameBut e h₂ h₃ := hs₃
        have helt' : e < h'.objs.size := Heap.lt_size he'
        have ht₃ : h₃.IsTuple h'.objs.size #[.int i (tk + 1), .int (B[i].toNat : Int) tk] := ⟨_, (hs₃.2 _ (Nat.ne_of_gt helt')).trans ht₂, rfl, _, rfl⟩
        have up₃ : ∀ c o, c ≠ e → c ≠ it → h'.get? c = some o → h₃.get? c = some o := fun c o h1 h2 x => hs₃.extBut c o h1 (hk₂ c o h1 h2 x)
        refine kcp_assign (env := compEnvC scope cl C env) hh ht₃ (lookup_relabel_local hxa) (lookup_relabel_local hxb) (by simp [compEnvC, relabel, hkind]) (hn'.at' fun o x => up₃ _ o (Ne.symm hCe) (Ne.symm hCi) x) fun h₄ tk₄ hn₄ hs₄ => ?_
        have up₄ : ∀ c o, c ≠ e → c ≠ it → c ≠ C → h'.get? c = some o → h₄.get? c = some o := fun c o h1 h2 h3 x => hs₄ c o h3 (up₃ c o h1 h2 x)
        have he₄ : IsEnum h₄ e it ((i : Int) + 1) (.int (B[i].toNat : Int) tk) := hs₄ _ _ hCe he₃
        have hit₄ : IsBytesIter h₄ it B t (i + 1) := let ⟨o, hq, r⟩ := biter_ext hit₂ hs₃.extBut (Ne.symm hne); ⟨o, hs₄ _ _ hCi hq, r⟩
        refine wpAny_Name (wpAny_loadName_local (by simp [compEnvC, relabel, hkind]) (lookup_relabel_local hxb) hn₄ (by simp; rfl) ?_) hdb
        refine wpAny_Name (wpAny_loadName_local (by simp [compEnvC, relabel, hkind]) (lookup_relabel_local hxa) hn₄ (by simp [hab]; rfl) ?_) hda
        have hkv : kvs.length ≤ sizeLine := by
          have h1 := hf'.length
          have h2 := invI_len ks i
          rw [kdfD_length] at h1
          rw [sizeLine_eq]
          omega
        refine wpAny_dictSet_pairs (hsz := hkv) (knd := PySem.intKind prog w) (k := (B[i].toNat : Int)) (intKind_is _ _ _ _) (hD'.at fun o x => up₄ _ _ (Ne.symm hDe) (Ne.symm hDi) hDC x) fun h₅ hd₅ hs₅ => ?_
        replace hs₅ : Heap.SameBut D h₄ h₅ := hs₅
        have up₅ : ∀ c o, c ≠ e → c ≠ it → c ≠ C → c ≠ D → h'.get? c = some o → h₅.get? c = some o := fun c o h1 h2 h3 h4 x => hs₅.extBut c o h4 (up₄ c o h1 h2 h3 x)
        refine ⟨ks.length + 1 - (i + 1), by omega, h₅, _, i + 1, _, _, (.int (B[i].toNat : Int) tk), rfl, hlt, rfl, ?_, biter_ext hit₄ hs₅.extBut hDi, ?_, hn₄.at' fun o x => hs₅.extBut C o (Ne.symm hDC) x, ?_, hd₅, ?_⟩
        · have := hs₅.extBut e _ hDe he₄
          simpa using this
        · exact ⟨F'.ns.at' fun o x => up₅ _ o heL hiL (Ne.symm hCL) (Ne.symm hDL) x, fun c o x => up₅ c o (fun q => by rw [q, he₀] at x; cases x) (fun q => by rw [q, hi₀] at x; cases x) (fun q => by rw [q, hC₀] at x; cases x) (fun q => by rw [q, hD₀] at x; cases x) (F'.keep c o x), F'.above⟩
        · intro p hp
          exact ⟨up₅ _ _ (off p hp).1 (off p hp).2 (offC p hp) (offD p hp) (N' p hp).1, (N' p hp).2⟩
        · have := hf'.stored PyProof.V.same_int (B[i].toNat : Int) (PyProof.V.Flat.int (i : Int) (tk + 1))
          rw [kdfD_put] at this
          show FlatPairs PyData.int _ (kdfD (kdfPut (invI ks i) (ks.getD i 0) (i : Int)))
          rw [hki]
          exact this
      · have hin : i = ks.length := by omega
        subst hin
        have hx : B[ks.length]? = none := Array.getElem?_eq_none (by omega)
        refine pyNext_enumB_end hh he' hit' hx fun h₂ hs₂ => ?_
        replace hs₂ : Heap.ExtBut it h' h₂ := hs₂
        obtain ⟨o, ho, hdo⟩ := Heap.dictOf_iff.mp hD'
        have ho₂ := hs₂ D o (Ne.symm hDi) ho
        refine hRR D C h₂ _ m' o kvs hdo hf' ⟨F'.ns.at' fun o x => hs₂ _ o hiL x, fun c o x => hs₂ c o (fun q => by rw [q, hi₀] at x; cases x) (F'.keep c o x), F'.above⟩ (fun p hp => ?_) hLlt offD (hn'.at' fun o x => hs₂ _ o (Ne.symm hCi) x) hC₀ hD₀ hCL hDL (Ne.symm hDC) offC
        rcases List.mem_cons.mp hp with rfl | hp
        · exact ⟨ho₂, hDL, hD₀⟩
        · exact ⟨hs₂ _ _ (off p hp).2 (N' p hp).1, (N' p hp).2⟩
  refine codeAny_compStart_dict (loop _ rfl) ?_
  exact wpAny_pyIter_enum he₁ (loop _ rfl)
theorem DictComp_enumB {s : Shared} {iter : PySem.Expr} {a b : PySem.Str} {pa pb pk pv tp : Pos} {kk : Nat} {scope : Scope} {cl : List (PySem.Str × Addr)} {pos : Pos} {B : Array UInt8} {ks : List Int} {news : List (Addr × Obj)} {Q : Value → Shared → Prop}
    (_F : Fr h₀ L s.heap m) (_N : News h₀ L s.heap news) (hb : KBw.bInts B = ks) (hz : ks.length ≤ 16777216) (hh : A.handled = none)
    (hclos : closureFor scope env = pure cl) (hcell : ∀ y ∈ scope.names, y.2 ≠ .cell) (hkind : scope.kind = .function)
    (hnames : ∀ y ∈ scope.names, y.2 = .local → scope.names.lookup y.1 = some .local) (hxa : scope.names.lookup a = some .local) (hxb : scope.names.lookup b = some .local) (hab : ¬ a = b)
    (hda : (a == ("__debug__" : PySem.Str)) = false) (hdb : (b == ("__debug__" : PySem.Str)) = false)
    (h : wpAny (model prog w) A (eval iter env) (fun xv s₁ => ∃ e it t, xv = .ref e ∧ e ≠ it ∧ IsEnum s₁.heap e it 0 .none ∧ IsBytesIter s₁.heap it B t 0 ∧ Fr h₀ L s₁.heap m ∧ News h₀ L s₁.heap news ∧ L ≠ e ∧ L ≠ it ∧ h₀.get? e = none ∧ h₀.get? it = none ∧ (∀ p ∈ news, p.1 ≠ e ∧ p.1 ≠ it) ∧
      (∀ D h' tk o kvs, o.IsDictOf (PySem.intKind prog w) kvs → FlatPairs PyData.int kvs (kdfD (invI ks ks.length)) → Fr h₀ L h' m → News h₀ L h' ((D, o) :: news) → L < D → (∀ p ∈ news, p.1 ≠ D) → Q (.ref D) { s₁ with heap := h', toks := tk })) E s)
    (hs : ∀ x, foldedSetIterable iter env x = pure x := by intro _; rfl) :
    wpAny (model prog w) A (eval (.DictComp (.Name b pk) (.Name a pv) [⟨.Tuple [.Name a pa, .Name b pb] kk tp, iter, [], 0⟩] scope pos) env) Q E s := by
  rw [arm_eval_DictComp]
  refine wpAny_comprehension_free (use := none) rfl hs hclos hkind hnames (wpAny_mono h (fun xv s₁ h₁ => ?_) fun _ _ e => e)
  obtain ⟨e, it, t, rfl, hne, he, hit, F, N, heL, hiL, he₀, hi₀, off, hQ⟩ := h₁
  refine wpAny_pyIter_enum he ?_
  refine dc_block (RR := fun acc C => compPost (model prog w) A E none Q acc C) hb hz hh hne he hit hcell hkind hxa hxb hab hda hdb F N heL hiL he₀ hi₀ off ?_
  intro D C h' tk m' o kvs hdo hf F' N' hLD offD hn hC₀ hD₀ hCL hDL hCD offC
  refine ⟨m', hn, fun h'' hs'' => hQ D h'' tk o kvs hdo hf ⟨F'.ns.sameBut hs'' (Ne.symm hCL), fun c o x => hs''.extBut c o (fun q => by rw [q, hC₀] at x; cases x) (F'.keep c o x), F'.above⟩ (fun p hp => ?_) hLD offD⟩
  refine ⟨hs''.extBut _ _ ?_ (N' p hp).1, (N' p hp).2⟩
  rcases List.mem_cons.mp hp with rfl | hp
  · exact Ne.symm hCD
  · exact offC p hp
theorem new_at {h : Heap} {a : Addr} (F : Fr h₀ L h m) (ha : h.objs.size ≤ a) : h₀.get? a = none := by
  cases e : h₀.get? a with
  | none => rfl
  | some o => exact absurd (Heap.lt_size (F.keep _ _ e)) (Nat.not_lt.mpr ha)
end
end R
end Mine
-- R8
namespace Mine
namespace R
open PyProof.Rows.LCg PyProof.Rows.LCt
section
variable {prog : Program} {w : World} {A : Around} {E : Value → Shared → Prop} {s : Shared} {h₀ : Heap} {L : Addr} {m : PySem.Str → Option Value} {env : Env}
theorem biter_st {b : Array UInt8} {t : Tok} {I : Addr} : ∀ i h h' o (nw : List (Addr × Obj)), KBw.IsBytesIter h I b t i → h.get? I = some o → h'.get? I = some o → (∀ b o, h₀.get? b = some o → h'.get? b = some o) → News h₀ L h' nw → True → KBw.IsBytesIter h' I b t i := by
  rintro i h h' o nw ⟨o', ho', r⟩ e e' _ _ _
  rw [e] at ho'
  cases ho'
  exact ⟨o, e', r⟩
/-- y = [elt for x in a bytes if ct] -/
theorem Assign_LC_TB {ct elt iter : PySem.Expr} {x y : PySem.Str} {px py : Pos} {scope : Scope} {cl : List (PySem.Str × Addr)} {pos spos : Pos} {Q : Flow → Shared → Prop} (F₀ : Fr h₀ L s.heap m) (hLe : env.locals = L) (hh : A.handled = none)
    (hsw : swapsWith (.ListComp elt [⟨.Name x px, iter, [ct], 0⟩] scope pos) (some (.Name y py)) spos.line env = pure true)
    (hclos : closureFor scope env = pure cl) (hcell : ∀ z ∈ scope.names, z.2 ≠ .cell) (hkind : scope.kind = .function)
    (hnames : ∀ z ∈ scope.names, z.2 = .local → scope.names.lookup z.1 = some .local) (hx : scope.names.lookup x = some .local)
    (hy : env.kindOf y = some .local) (hp : (env.scope.kind == .class || (env.scope.kind == .module && env.locals != env.globals)) = false)
    (h : wpAny (model prog w) A (eval iter env) (fun xv s₁ => ∃ b t news, xv = .bytes b t ∧ Fr h₀ L s₁.heap m ∧ News h₀ L s₁.heap news ∧ b.size ≤ sizeLine ∧
      ∀ g, CompRestT prog w A h₀ L m env ct elt x scope cl { s₁ with heap := g } (fun _ => True) (fun i v => ∃ c u, b[i]? = some c ∧ v = .int (c.toNat : Int) u) (FinA h₀ L m { s₁ with heap := g } y Q) b.size 0 [] news) E s)
    (hs : ∀ x, foldedSetIterable iter env x = pure x := by intro _; rfl) :
    wpAny (model prog w) A (exec (.Assign [.Name y py] (.ListComp elt [⟨.Name x px, iter, [ct], 0⟩] scope pos) spos) env) Q E s := by
  subst hLe
  rw [exec_Assign_Name_used _ _ _ _ hsw]
  refine wpAny_bind (wpAny_standAt (wpAny_bind ?_))
  show wpAny _ A (do let _ ← comprehension (.ListComp elt [⟨.Name x px, iter, [ct], 0⟩] scope pos) scope env _ (newList []) false (eval iter env) (some (assign (.Name y py) env))) _ _ s
  refine wpAny_bind (wpAny_mono (wpAny_comprehension_free (use := some (assign (.Name y py) env)) (Q := fun _ s' => Q .next s') rfl hs hclos hkind hnames
    (wpAny_mono h (fun xv s₁ h₁ => ?_) fun _ _ e => e)) (fun _ s' hq => wpAny_pure (wpAny_pure hq)) fun _ _ e => e)
  obtain ⟨b, t, news, rfl, F, N, hsz, R⟩ := h₁
  refine KBw.pyIter_bytes ?_
  have up : ∀ c o, s₁.heap.get? c = some o → (s₁.heap.push { cls := .type "bytes_iterator", data := .fields #[.bytes b t, .int 0 0] }).get? c = some o := fun c o e => Heap.get?_push_of_some _ e
  refine block_T (S := fun _ => True) (KBw.walks hh s₁.heap.objs.size b t) hsz (fun i h st => by obtain ⟨o, e, _⟩ := st; exact ⟨o, e⟩) biter_st hcell hkind hx ⟨_, Heap.get?_push_size _ rfl, rfl, rfl⟩ (fun c hc => ?_)
    (F.keeps up) (N.grown up) (Nat.ne_of_lt F.ns.lt) (next_is_new F) (fun p hp => Nat.ne_of_lt (Heap.lt_size (N p hp).1)) trivial (R _) ?_
  · rw [List.mem_singleton.mp hc]
    show s₁.heap.objs.size < (s₁.heap.push _).objs.size
    rw [Heap.size_push]; exact Nat.lt_succ_self _
  · intro D C h' tk m' ys news' F' N' o1 hn hC₀ hD₀ hCL hDL hCD offC fin
    show wpAny _ A (assign (.Name y py) env (.ref D)) _ _ _
    refine wpAny_assign_Name (wpAny_storeName_local hy F'.ns (fun h₂ hn₂ hs₂ => ?_) hp)
    have hL₀ : h₀.get? env.locals = none := Heap.get?_none_of_le F'.above
    have F₂ : Fr h₀ env.locals h₂ (fun z => if z = y then some (.ref D) else m z) := ⟨hn₂, fun b o e => hs₂.extBut b o (fun q => by rw [q, hL₀] at e; cases e) (F'.keep b o e), F'.above⟩
    refine ⟨m', hn.sameBut hs₂ hCL, fun h'' hs'' => fin D h'' _ (F₂.change hs'' hCL hC₀) (fun p hp => ?_) o1⟩
    have z : h₂.get? p.1 = some p.2 := hs₂.extBut _ _ (N' p hp).2.1 (N' p hp).1
    refine ⟨hs''.extBut _ _ ?_ z, (N' p hp).2⟩
    rcases List.mem_cons.mp hp with rfl | hp
    · exact Ne.symm hCD
    · exact offC p hp
end
section
variable {prog : Program} {w : World} {A : Around} {E : Value → Shared → Prop} {s : Shared} {env : Env} {h₀ : Heap} {x : PySem.Str} {body : List Stmt} {Q : Flow → Shared → Prop}
/-- for over a list of the ledger, its items any values -/
theorem iter_invNV {l : Addr} {vs : List Value} {nn : Nat} {m₀ : PySem.Str → Option Value} {news : List (Addr × Obj)} (J : Nat → (PySem.Str → Option Value) → List (Addr × Obj) → Prop)
    (hh : A.handled = none) (hl : (l, listOf vs.toArray nn) ∈ news) (F : Fr h₀ env.locals s.heap m₀) (N : News h₀ env.locals s.heap news) (hj : J 0 m₀ news)
    (turn : ∀ i v m₁ news₁ h tk own, vs[i]? = some v → news₁.map (·.1) = news.map (·.1) → OwnOff own (news.map (·.1)) → (l, listOf vs.toArray nn) ∈ news₁ → J i m₁ news₁ → Fr h₀ env.locals h (fun y => if y = x then some v else m₁ y) → News h₀ env.locals h (news₁ ++ own) →
      wpAny (model prog w) A (execs body env) (InvPostN h₀ env.locals (fun m' nx => (l, listOf vs.toArray nn) ∈ nx ∧ J (i + 1) m' nx) own (news.map (·.1)) { s with heap := h, toks := tk } Q) E { s with heap := h, toks := tk })
    (done : ∀ m₁ news₁ h tk, (l, listOf vs.toArray nn) ∈ news₁ → J vs.length m₁ news₁ → Fr h₀ env.locals h m₁ → News h₀ env.locals h news₁ → Q .next { s with heap := h, toks := tk }) :
    wpAny (model prog w) A (pyIter (.ref l)) (fun it s₂ => LoopAtV prog w A h₀ env x body Q E it s₂) E s := by
  have hol : s.heap.get? l = some (listOf vs.toArray nn) := (N _ hl).1
  have hls : s.heap.IsList l vs.toArray := ⟨_, hol, rfl, nn, rfl⟩
  have hne : l ≠ s.heap.objs.size := Nat.ne_of_lt (Heap.lt_size hol)
  refine wpAny_pyIter_list hls ?_
  have W := Walks.list (prog := prog) (w := w) hh s.heap.objs.size l hne vs.toArray
  have hlen : vs.toArray.size = vs.length := by simp
  rw [hlen] at W
  refine ⟨_, _, _, vs.length, _, _, m₀, news, (fun i m nx => nx.map (·.1) = news.map (·.1) ∧ (l, listOf vs.toArray nn) ∈ nx ∧ J i m nx), rfl, W, ?_, ?_, ?_, ⟨⟨_, Heap.get?_push_size _ rfl, rfl, rfl⟩, hls.at fun o e => Heap.get?_push_of_some _ e⟩, F.push _, (fun p hp => ⟨Heap.get?_push_of_some _ (N p hp).1, (N p hp).2⟩), ⟨rfl, hl, hj⟩, ?_, ?_⟩
  · intro hm
    rcases List.mem_cons.mp hm with e | hm
    · exact absurd F.ns.lt (e ▸ Nat.lt_irrefl _)
    · exact (N _ hl).2.1 ((List.mem_singleton.mp hm).symm)
  · intro b hb
    rw [List.mem_singleton.mp hb]
    exact next_is_new F
  · intro p hp hI
    exact absurd (Heap.lt_size (N p hp).1) ((List.mem_singleton.mp hI) ▸ Nat.lt_irrefl _)
  · rintro i v m₁ news₁ s₁ own ⟨hh', tk', rfl⟩ hin hP ⟨hadr, hl₁, hJ⟩ hoff hown hget hfp _ F₁ N₁
    have hsep : OwnOff (own.filter fun p => decide (p.1 = s.heap.objs.size)) (news.map (·.1)) := by
      intro p hp b hb e
      obtain ⟨q, hq, rfl⟩ := List.mem_map.mp hb
      have h1 : p.1 = s.heap.objs.size := by simpa using (List.mem_filter.mp hp).2
      exact absurd (Heap.lt_size (N q hq).1) (by rw [← e, h1]; exact Nat.lt_irrefl _)
    have hv : vs[i]? = some v := by simpa using hP
    have N₂ : News h₀ env.locals hh' (news₁ ++ own.filter fun p => decide (p.1 = s.heap.objs.size)) := fun p hp => N₁ p ((List.mem_append.mp hp).elim (fun h => List.mem_append.mpr (.inr h)) fun h => List.mem_append.mpr (.inl ((List.mem_filter.mp h).1)))
    have hlo : hh'.get? l = some (listOf vs.toArray nn) := (N₁ _ (List.mem_append.mpr (.inr hl₁))).1
    refine wpAny_mono (turn i v m₁ news₁ hh' tk' _ hv hadr hsep hl₁ hJ F₁ N₂) (fun f s₂ p => ?_) fun _ _ e => e
    have fin : InvEndN h₀ env.locals (fun m' nx => (l, listOf vs.toArray nn) ∈ nx ∧ J (i + 1) m' nx) (own.filter fun p => decide (p.1 = s.heap.objs.size)) (news.map (·.1)) { s with heap := hh', toks := tk' } s₂ →
        LoopStepU h₀ env.locals [s.heap.objs.size] own (fun m nx => nx.map (·.1) = news.map (·.1) ∧ (l, listOf vs.toArray nn) ∈ nx ∧ J (i + 1) m nx) { s with heap := hh', toks := tk' } .next s₂ := by
      rintro ⟨h', tk, m', news', nx, e, F', N', hn, ho, ha, hm⟩
      refine ⟨rfl, h', tk, m', nx, e, F', fun p hp => ?_, fun p hp => ?_, ha, hm⟩
      · rcases List.mem_append.mp hp with h | h
        · by_cases hI : p.1 = s.heap.objs.size
          · exact N' p (ho p (List.mem_filter.mpr ⟨h, by simpa using hI⟩))
          · have h1 : p.1 = l := by
              rcases List.mem_cons.mp (hown p h) with h2 | h2
              · exact absurd h2 hI
              · exact List.mem_singleton.mp h2
            have h2 : hh'.get? p.1 = some p.2 := hget p h
            rw [h1, hlo] at h2
            have h3 : p = (l, listOf vs.toArray nn) := Prod.ext h1 (Option.some.inj h2).symm
            rw [h3]
            exact N' _ (hn _ hm.1)
        · exact N' p (hn p h)
      · have h1 : p.1 ∈ nx.map (·.1) := List.mem_map.mpr ⟨p, hp, rfl⟩
        rw [ha] at h1
        obtain ⟨q, hq, e⟩ := List.mem_map.mp h1
        intro hI
        exact absurd (Heap.lt_size (N q hq).1) (by rw [e, List.mem_singleton.mp hI]; exact Nat.lt_irrefl _)
    cases f with
    | ret v => exact .ret p
    | brk => exact .brk p
    | next => exact .next (fin p)
    | cont => exact .cont (fin p)
  · rintro h' tk m' news' F' N' _ ⟨_, hl', hJ⟩
    exact done m' news' h' tk hl' hJ F' N'
end
end R
end Mine
-- R9
namespace Mine
namespace R
open PyProof.Rows.LCg PyProof.Rows.LCt PyProof.V KBw
section
variable {prog : Program} {w : World} {A : Around} {E : Value → Shared → Prop} {s : Shared} {h₀ : Heap} {L : Addr} {m : PySem.Str → Option Value} {env : Env}
/-- [elt for x in a bytes] -/
theorem LC_B {elt iter : PySem.Expr} {x : PySem.Str} {px : Pos} {scope : Scope} {cl : List (PySem.Str × Addr)} {pos : Pos} {Q : Value → Shared → Prop} (F₀ : Fr h₀ L s.heap m) (hh : A.handled = none)
    (hclos : closureFor scope env = pure cl) (hcell : ∀ y ∈ scope.names, y.2 ≠ .cell) (hkind : scope.kind = .function)
    (hnames : ∀ y ∈ scope.names, y.2 = .local → scope.names.lookup y.1 = some .local) (hx : scope.names.lookup x = some .local)
    (h : wpAny (model prog w) A (eval iter env) (fun xv s₁ => ∃ b t news, xv = .bytes b t ∧ Fr h₀ L s₁.heap m ∧ News h₀ L s₁.heap news ∧ b.size ≤ sizeLine ∧
      ∀ g, CompRest prog w A h₀ L m env elt x scope cl { s₁ with heap := g } (fun _ => True) (fun i v => ∃ c u, b[i]? = some c ∧ v = .int (c.toNat : Int) u) (FinE h₀ L m { s₁ with heap := g } Q) b.size 0 [] news) E s)
    (hs : ∀ x, foldedSetIterable iter env x = pure x := by intro _; rfl) :
    wpAny (model prog w) A (eval (.ListComp elt [⟨.Name x px, iter, [], 0⟩] scope pos) env) Q E s := by
  rw [eval_ListComp]
  refine wpAny_comprehension_free (use := none) rfl hs hclos hkind hnames (wpAny_mono h (fun xv s₁ h₁ => ?_) fun _ _ e => e)
  obtain ⟨b, t, news, rfl, F, N, hsz, R⟩ := h₁
  refine KBw.pyIter_bytes ?_
  have up : ∀ c o, s₁.heap.get? c = some o → (s₁.heap.push { cls := .type "bytes_iterator", data := .fields #[.bytes b t, .int 0 0] }).get? c = some o := fun c o e => Heap.get?_push_of_some _ e
  refine block_U (S := fun _ => True) (KBw.walks hh s₁.heap.objs.size b t) hsz (fun i h st => by obtain ⟨o, e, _⟩ := st; exact ⟨o, e⟩) biter_st hcell hkind hx ⟨_, Heap.get?_push_size _ rfl, rfl, rfl⟩ (fun c hc => ?_)
    (F.keeps up) (N.grown up) (Nat.ne_of_lt F.ns.lt) (next_is_new F) (fun p hp => Nat.ne_of_lt (Heap.lt_size (N p hp).1)) trivial (R _) ?_
  · rw [List.mem_singleton.mp hc]
    show s₁.heap.objs.size < (s₁.heap.push _).objs.size
    rw [Heap.size_push]; exact Nat.lt_succ_self _
  · intro D C h tk m' ys news' F' N' o1 hn hC₀ hD₀ hCL hDL hCD offC fin
    refine ⟨m', hn, fun h'' hs'' => fin D h'' tk (F'.change hs'' hCL hC₀) (fun p hp => ?_) o1⟩
    refine ⟨hs''.extBut _ _ ?_ (N' p hp).1, (N' p hp).2⟩
    rcases List.mem_cons.mp hp with rfl | hp
    · exact Ne.symm hCD
    · exact offC p hp
theorem riter_ext {h h' : Heap} {it e : Addr} {a b : Int} (x : IsRangeIter h it a b 1) (hs : Heap.ExtBut e h h') (hne : it ≠ e) : IsRangeIter h' it a b 1 := hs it _ hne x
theorem dcr_block {iter kx : PySem.Expr} {a : PySem.Str} {pa pv : Pos} {scope : Scope} {cl : List (PySem.Str × Addr)} {pos : Pos} {s₂ : Shared} {it : Addr} {ks : List Int} {news : List (Addr × Obj)} {RR : Value → Addr → Result → Shared → Prop}
    (hz : ks.length ≤ 16777216) (hh : A.handled = none)
    (hit : IsRangeIter s₂.heap it 0 (ks.length : Int) 1)
    (hcell : ∀ y ∈ scope.names, y.2 ≠ .cell) (hkind : scope.kind = .function) (hxa : scope.names.lookup a = some .local)
    (hda : (a == ("__debug__" : PySem.Str)) = false)
    (F : Fr h₀ L s₂.heap m) (N : News h₀ L s₂.heap news) (hiL : L ≠ it) (hi₀ : h₀.get? it = none) (off : ∀ p ∈ news, p.1 ≠ it)
    (hkey : ∀ (i : Nat) t C oC m₂ h tk (E' : Value → Shared → Prop), i < ks.length → NsObj oC m₂ → m₂ a = some (.int (i : Int) t) → Fr h₀ L h m → News h₀ L h ((C, oC) :: news) →
      wpAny (model prog w) A (eval kx (compEnvC scope cl C env)) (fun v s' => (∃ t', v = .int (ks.getD i 0) t') ∧ ∃ tk', s' = { s₂ with heap := h, toks := tk' }) E' { s₂ with heap := h, toks := tk })
    (hRR : ∀ D C h tk m' o kvs, o.IsDictOf (PySem.intKind prog w) kvs → FlatPairs PyData.int kvs (kdfD (invI ks ks.length)) → Fr h₀ L h m → News h₀ L h ((D, o) :: news) → L < D → (∀ p ∈ news, p.1 ≠ D) → h.Ns C m' → h₀.get? C = none → h₀.get? D = none → C ≠ L → D ≠ L → C ≠ D → (∀ p ∈ news, p.1 ≠ C) → RR (.ref D) C (.ok .next) { s₂ with heap := h, toks := tk }) :
    wpAny (model prog w) A newDict (fun acc s₃ => wpAny (model prog w) A (newFunctionEnv scope env.globals cl [] env.qual none .none (some env)) (fun cenv s₄ =>
      codeAny (model prog w) A (.compStart (.DictComp kx (.Name a pv) [⟨.Name a pa, iter, [], 0⟩] scope pos) 0 (.ref it) acc { cenv with scope := relabel scope env }) (RR acc cenv.locals) s₄) E s₃) E s₂ := by
  refine wpAny_newObj_type (wpAny_newFunctionEnv hcell (by intro y hy; simp at hy) (fun h₁ hns₁ hsb₁ => ?_) hkind)
  dsimp only at hns₁ hsb₁ ⊢
  have hnew : (s₂.heap.push { cls := .type "dict", dict := none, data := .dict #[] }).DictOf (PySem.intKind prog w) s₂.heap.objs.size [] := Heap.DictOf.new s₂.heap
  generalize hH2 : s₂.heap.push { cls := .type "dict", dict := none, data := .dict #[] } = H2 at hns₁ hsb₁ hnew ⊢
  have hC : H2.objs.size = s₂.heap.objs.size + 1 := by rw [← hH2, Heap.size_push]
  have hDC : s₂.heap.objs.size ≠ H2.objs.size := by rw [hC]; exact Nat.ne_of_lt (Nat.lt_succ_self _)
  have below : ∀ b, b < s₂.heap.objs.size → b ≠ H2.objs.size ∧ b ≠ s₂.heap.objs.size := fun b hb => ⟨by rw [hC]; exact Nat.ne_of_lt (Nat.lt_succ_of_lt hb), Nat.ne_of_lt hb⟩
  have hilt : it < s₂.heap.objs.size := Heap.lt_size hit
  have old : ∀ b o, s₂.heap.get? b = some o → h₁.get? b = some o := fun b o e => hsb₁.extBut b o (below b (Heap.lt_size e)).1 (Heap.get?_push_of_some _ (hH2 ▸ Heap.get?_push_of_some _ e))
  have hacc : h₁.DictOf (PySem.intKind prog w) s₂.heap.objs.size [] := hnew.at fun o e => hsb₁.extBut _ _ hDC (Heap.get?_push_of_some _ e)
  have fresh : ∀ a, s₂.heap.objs.size ≤ a → s₂.heap.get? a = none := fun a ha => by
    cases e : s₂.heap.get? a with
    | none => rfl
    | some o' => exact absurd (Heap.lt_size e) (Nat.not_lt.mpr ha)
  have fresh₀ : ∀ a, s₂.heap.objs.size ≤ a → h₀.get? a = none := fun a ha => by
    cases e : h₀.get? a with
    | none => rfl
    | some o' => have := F.keep a o' e; rw [fresh a ha] at this; cases this
  have hD₀ : h₀.get? s₂.heap.objs.size = none := fresh₀ _ (Nat.le_refl _)
  have hC₀ : h₀.get? H2.objs.size = none := fresh₀ _ (by rw [hC]; exact Nat.le_succ _)
  have hLlt : L < s₂.heap.objs.size := F.ns.lt
  have hDL : s₂.heap.objs.size ≠ L := Ne.symm (below L hLlt).2
  have hCL : H2.objs.size ≠ L := Ne.symm (below L hLlt).1
  have hCi : it ≠ H2.objs.size := (below it hilt).1
  have hDi : it ≠ s₂.heap.objs.size := (below it hilt).2
  have offC : ∀ p ∈ news, p.1 ≠ H2.objs.size := fun p hp => (below _ (Heap.lt_size (N p hp).1)).1
  have offD : ∀ p ∈ news, p.1 ≠ s₂.heap.objs.size := fun p hp => (below _ (Heap.lt_size (N p hp).1)).2
  have hit₁ : IsRangeIter h₁ it 0 (ks.length : Int) 1 := old _ _ hit
  generalize hCC : H2.objs.size = C at *
  generalize hDD : s₂.heap.objs.size = D at *
  have W := Walks.range (prog := prog) (w := w) hh it 0 1 ks.length
  have loop : ∀ s₃ : Shared, s₃ = { s₂ with heap := h₁, toks := s₂.toks + ([] : List (PySem.Str × Value)).length } →
      codeAny (model prog w) A (.compLoop (.DictComp kx (.Name a pv) [⟨.Name a pa, iter, [], 0⟩] scope pos) 0 (.ref it) (.ref D) (compEnvC scope cl C env))
        (RR (.ref D) C) s₃ := by
    rintro s₃ rfl
    refine dc_loop
      (fun k s' => ∃ h' tk i m' kvs, s' = { s₂ with heap := h', toks := tk } ∧ i ≤ ks.length ∧ k = ks.length + 1 - i ∧ IsRangeIter h' it (0 + ((i : Nat) : Int) * 1) ((ks.length : Int) - (i : Nat)) 1 ∧ Fr h₀ L h' m ∧ h'.Ns C m' ∧
        News h₀ L h' news ∧ h'.DictOf (PySem.intKind prog w) D kvs ∧ FlatPairs PyData.int kvs (kdfD (invI ks i))) ?_ (ks.length + 1)
      ⟨h₁, _, 0, _, [], rfl, Nat.zero_le _, rfl, by simpa using hit₁, F.keeps old, hns₁, fun p hp => ⟨old _ _ (N p hp).1, (N p hp).2⟩, hacc, .nil⟩
    · rintro k s' ⟨h', tk, i, m', kvs, rfl, hi, rfl, hit', F', hn', N', hD', hf'⟩
      by_cases hlt : i < ks.length
      · refine W.item i _ _ _ hlt hit' fun v h₂ tk₂ hv hst₂ hk₂ => ?_
        obtain ⟨t, rfl⟩ := hv
        have e1 : 0 + (i : Int) * 1 = (i : Int) := by omega
        rw [e1]
        refine wpAny_of_eq (a := ()) (by rfl) ?_
        have up₂ : ∀ c o, c ≠ it → h'.get? c = some o → h₂.get? c = some o := fun c o hc e => hk₂ c o (by simpa using hc) e
        refine wpAny_assign_Name (wpAny_storeName_local (env := compEnvC scope cl C env) (lookup_relabel_local hxa) (hn'.at' fun o e => up₂ _ o (Ne.symm hCi) e) (fun h₃ hn₃ hs₃ => ?_) (by simp [compEnvC, relabel, hkind]))
        replace hs₃ : Heap.SameBut C h₂ h₃ := hs₃
        replace hn₃ : h₃.Ns C _ := hn₃
        have up₃ : ∀ c o, c ≠ it → c ≠ C → h'.get? c = some o → h₃.get? c = some o := fun c o h1 h2 e => hs₃.extBut c o h2 (up₂ c o h1 e)
        have F₃ : Fr h₀ L h₃ m := ⟨F'.ns.at' fun o x => up₃ _ o hiL (Ne.symm hCL) x, fun c o x => up₃ c o (fun q => by rw [q, hi₀] at x; cases x) (fun q => by rw [q, hC₀] at x; cases x) (F'.keep c o x), F'.above⟩
        have N₃ : News h₀ L h₃ news := fun p hp => ⟨up₃ _ _ (off p hp) (offC p hp) (N' p hp).1, (N' p hp).2⟩
        obtain ⟨oC, heC, hoC⟩ := ns_obj hn₃
        have N₃' : News h₀ L h₃ ((C, oC) :: news) := fun p hp => by
          rcases List.mem_cons.mp hp with rfl | hp
          · exact ⟨heC, hCL, hC₀⟩
          · exact N₃ p hp
        have hst₃ : IsRangeIter h₃ it (0 + ((i + 1 : Nat) : Int) * 1) ((ks.length : Int) - ((i + 1 : Nat) : Int)) 1 := hs₃.extBut it _ hCi hst₂
        have hD₃ : h₃.DictOf (PySem.intKind prog w) D kvs := hD'.at fun o x => up₃ _ _ (Ne.symm hDi) hDC x
        refine wpAny_mono (hkey i t C oC _ h₃ _ _ hlt hoC (by simp) F₃ N₃') (fun kv s₄ h₄ => ?_) fun _ _ e => e
        obtain ⟨⟨t', rfl⟩, tk', rfl⟩ := h₄
        refine wpAny_Name (wpAny_loadName_local (by simp [compEnvC, relabel, hkind]) (lookup_relabel_local hxa) hn₃ (by simp; rfl) ?_) hda
        have hkv : kvs.length ≤ sizeLine := by
          have h1 := hf'.length
          have h2 := invI_len ks i
          rw [kdfD_length] at h1
          rw [sizeLine_eq]
          omega
        refine wpAny_dictSet_pairs (hsz := hkv) (knd := PySem.intKind prog w) (k := ks.getD i 0) (intKind_is _ _ _ _) hD₃ fun h₅ hd₅ hs₅ => ?_
        replace hs₅ : Heap.SameBut D h₃ h₅ := hs₅
        refine ⟨ks.length + 1 - (i + 1), by omega, h₅, _, i + 1, _, _, rfl, hlt, rfl, ?_, ?_, hn₃.at' fun o x => hs₅.extBut C o (Ne.symm hDC) x, ?_, hd₅, ?_⟩
        · exact hs₅.extBut it _ hDi hst₃
        · exact F₃.change hs₅ hDL hD₀
        · intro p hp
          exact ⟨hs₅.extBut _ _ (offD p hp) (N₃ p hp).1, (N₃ p hp).2⟩
        · have := hf'.stored PyProof.V.same_int (ks.getD i 0) (PyProof.V.Flat.int (i : Int) t)
          rw [kdfD_put] at this
          exact this
      · have hin : i = ks.length := by omega
        subst hin
        refine W.done _ _ _ hit' fun h₂ tk₂ hk₂ => ?_
        have up₂ : ∀ c o, c ≠ it → h'.get? c = some o → h₂.get? c = some o := fun c o hc e => hk₂ c o (by simpa using hc) e
        obtain ⟨o, ho, hdo⟩ := Heap.dictOf_iff.mp hD'
        have ho₂ := up₂ D o (Ne.symm hDi) ho
        refine hRR D C h₂ _ m' o kvs hdo hf' ⟨F'.ns.at' fun o x => up₂ _ o hiL x, fun c o x => up₂ c o (fun q => by rw [q, hi₀] at x; cases x) (F'.keep c o x), F'.above⟩ (fun p hp => ?_) hLlt offD (hn'.at' fun o x => up₂ _ o (Ne.symm hCi) x) hC₀ hD₀ hCL hDL (Ne.symm hDC) offC
        rcases List.mem_cons.mp hp with rfl | hp
        · exact ⟨ho₂, hDL, hD₀⟩
        · exact ⟨up₂ _ _ (off p hp) (N' p hp).1, (N' p hp).2⟩
  refine codeAny_compStart_dict (loop _ rfl) ?_
  exact W.self 0 _ _ _ (by simpa using hit₁) (loop _ rfl)
/-- {kx: a for a in range(n)} -/
theorem DictComp_range {s : Shared} {iter kx : PySem.Expr} {a : PySem.Str} {pa pv : Pos} {scope : Scope} {cl : List (PySem.Str × Addr)} {pos : Pos} {ks : List Int} {news : List (Addr × Obj)} {Q : Value → Shared → Prop} (_F : Fr h₀ L s.heap m)
    (hz : ks.length ≤ 16777216) (hh : A.handled = none)
    (hclos : closureFor scope env = pure cl) (hcell : ∀ y ∈ scope.names, y.2 ≠ .cell) (hkind : scope.kind = .function)
    (hnames : ∀ y ∈ scope.names, y.2 = .local → scope.names.lookup y.1 = some .local) (hxa : scope.names.lookup a = some .local)
    (hda : (a == ("__debug__" : PySem.Str)) = false)
    (h : wpAny (model prog w) A (eval iter env) (fun xv s₁ => ∃ r t u v, xv = .ref r ∧ IsRange s₁.heap r 0 (ks.length : Int) 1 t u v ∧ Fr h₀ L s₁.heap m ∧ News h₀ L s₁.heap news ∧
      (∀ (i : Nat) t C oC m₂ h tk (E' : Value → Shared → Prop), i < ks.length → NsObj oC m₂ → m₂ a = some (.int (i : Int) t) → Fr h₀ L h m → News h₀ L h ((C, oC) :: news) →
        wpAny (model prog w) A (eval kx (compEnvC scope cl C env)) (fun v s' => (∃ t', v = .int (ks.getD i 0) t') ∧ ∃ tk', s' = { s₁ with heap := h, toks := tk' }) E' { s₁ with heap := h, toks := tk }) ∧
      (∀ D h' tk o kvs, o.IsDictOf (PySem.intKind prog w) kvs → FlatPairs PyData.int kvs (kdfD (invI ks ks.length)) → Fr h₀ L h' m → News h₀ L h' ((D, o) :: news) → L < D → (∀ p ∈ news, p.1 ≠ D) → Q (.ref D) { s₁ with heap := h', toks := tk })) E s)
    (hs : ∀ x, foldedSetIterable iter env x = pure x := by intro _; rfl) :
    wpAny (model prog w) A (eval (.DictComp kx (.Name a pv) [⟨.Name a pa, iter, [], 0⟩] scope pos) env) Q E s := by
  rw [arm_eval_DictComp]
  refine wpAny_comprehension_free (use := none) rfl hs hclos hkind hnames (wpAny_mono h (fun xv s₁ h₁ => ?_) fun _ _ e => e)
  obtain ⟨r, t, u, v, rfl, hr, F, N, hkey, hQ⟩ := h₁
  refine wpAny_pyIter_range hr (rsmall _ (by omega)) ?_
  have up : ∀ (o' : Obj) c o, s₁.heap.get? c = some o → (s₁.heap.push o').get? c = some o := fun o' c o e => Heap.get?_push_of_some _ e
  refine dcr_block (ks := ks) (RR := fun acc C => compPost (model prog w) A E none Q acc C) hz hh (by show IsRangeIter _ _ _ _ _; rw [rs_one]; exact Heap.get?_push_size _ rfl) hcell hkind hxa hda
    (F.keeps fun c o e => up _ c o e) (N.grown fun c o e => up _ c o e) (Nat.ne_of_lt F.ns.lt) (next_is_new F) (fun p hp => Nat.ne_of_lt (Heap.lt_size (N p hp).1)) hkey ?_
  intro D C h' tk m' o kvs hdo hf F' N' hLD offD hn hC₀ hD₀ hCL hDL hCD offC
  refine ⟨m', hn, fun h'' hs'' => hQ D h'' tk o kvs hdo hf ⟨F'.ns.sameBut hs'' (Ne.symm hCL), fun c o x => hs''.extBut c o (fun q => by rw [q, hC₀] at x; cases x) (F'.keep c o x), F'.above⟩ (fun p hp => ?_) hLD offD⟩
  refine ⟨hs''.extBut _ _ ?_ (N' p hp).1, (N' p hp).2⟩
  rcases List.mem_cons.mp hp with rfl | hp
  · exact Ne.symm hCD
  · exact offC p hp
/-- y = {kx: a for a in range(n)} -/
theorem Assign_DictComp_range {s : Shared} {iter kx : PySem.Expr} {a y : PySem.Str} {pa pv py : Pos} {scope : Scope} {cl : List (PySem.Str × Addr)} {pos spos : Pos} {ks : List Int} {news : List (Addr × Obj)} {Q : Flow → Shared → Prop} (_F : Fr h₀ L s.heap m) (_N : News h₀ L s.heap news) (hLe : env.locals = L)
    (hz : ks.length ≤ 16777216) (hh : A.handled = none)
    (hsw : swapsWith (.DictComp kx (.Name a pv) [⟨.Name a pa, iter, [], 0⟩] scope pos) (some (.Name y py)) spos.line env = pure true)
    (hclos : closureFor scope env = pure cl) (hcell : ∀ y ∈ scope.names, y.2 ≠ .cell) (hkind : scope.kind = .function)
    (hnames : ∀ y ∈ scope.names, y.2 = .local → scope.names.lookup y.1 = some .local) (hxa : scope.names.lookup a = some .local)
    (hda : (a == ("__debug__" : PySem.Str)) = false)
    (hy : env.kindOf y = some .local) (hp : (env.scope.kind == .class || (env.scope.kind == .module && env.locals != env.globals)) = false)
    (h : wpAny (model prog w) A (eval iter env) (fun xv s₁ => Stop (∃ r t u v, xv = .ref r ∧ IsRange s₁.heap r 0 (ks.length : Int) 1 t u v ∧ Fr h₀ L s₁.heap m ∧ News h₀ L s₁.heap news ∧
      (∀ (i : Nat) t C oC m₂ h tk (E' : Value → Shared → Prop), i < ks.length → NsObj oC m₂ → m₂ a = some (.int (i : Int) t) → Fr h₀ L h m → News h₀ L h ((C, oC) :: news) →
        wpAny (model prog w) A (eval kx (compEnvC scope cl C env)) (fun v s' => (∃ t', v = .int (ks.getD i 0) t') ∧ ∃ tk', s' = { s₁ with heap := h, toks := tk' }) E' { s₁ with heap := h, toks := tk }) ∧
      (∀ D h' tk o kvs, o.IsDictOf (PySem.intKind prog w) kvs → FlatPairs PyData.int kvs (kdfD (invI ks ks.length)) → Fr h₀ L h' (fun z => if z = y then some (.ref D) else m z) → News h₀ L h' ((D, o) :: news) → L < D → (∀ p ∈ news, p.1 ≠ D) → Q .next { s₁ with heap := h', toks := tk }))) E s)
    (hs : ∀ x, foldedSetIterable iter env x = pure x := by intro _; rfl) :
    wpAny (model prog w) A (exec (.Assign [.Name y py] (.DictComp kx (.Name a pv) [⟨.Name a pa, iter, [], 0⟩] scope pos) spos) env) Q E s := by
  subst hLe
  rw [exec_Assign_Name_used _ _ _ _ hsw]
  refine wpAny_bind (wpAny_standAt (wpAny_bind ?_))
  show wpAny _ A (do let _ ← comprehension (.DictComp kx (.Name a pv) [⟨.Name a pa, iter, [], 0⟩] scope pos) scope env _ newDict false (eval iter env) (some (assign (.Name y py) env))) _ _ s
  refine wpAny_bind (wpAny_mono (wpAny_comprehension_free (use := some (assign (.Name y py) env)) (Q := fun _ s' => Q .next s') rfl hs hclos hkind hnames
    (wpAny_mono h (fun xv s₁ h₁ => ?_) fun _ _ e => e)) (fun _ s' hq => wpAny_pure (wpAny_pure hq)) fun _ _ e => e)
  obtain ⟨r, t, u, v, rfl, hr, F, N, hkey, hQ⟩ := h₁
  refine wpAny_pyIter_range hr (rsmall _ (by omega)) ?_
  have up : ∀ (o' : Obj) c o, s₁.heap.get? c = some o → (s₁.heap.push o').get? c = some o := fun o' c o e => Heap.get?_push_of_some _ e
  refine dcr_block (ks := ks) hz hh (by show IsRangeIter _ _ _ _ _; rw [rs_one]; exact Heap.get?_push_size _ rfl) hcell hkind hxa hda
    (F.keeps fun c o e => up _ c o e) (N.grown fun c o e => up _ c o e) (Nat.ne_of_lt F.ns.lt) (next_is_new F) (fun p hp => Nat.ne_of_lt (Heap.lt_size (N p hp).1)) hkey ?_
  intro D C h' tk m' o kvs hdo hf F' N' hLD offD hn hC₀ hD₀ hCL hDL hCD offC
  show wpAny _ A (assign (.Name y py) env (.ref D)) _ _ _
  refine wpAny_assign_Name (wpAny_storeName_local hy F'.ns (fun h₂ hn₂ hs₂ => ?_) hp)
  have hL₀ : h₀.get? env.locals = none := Heap.get?_none_of_le F'.above
  have F₂ : Fr h₀ env.locals h₂ (fun z => if z = y then some (.ref D) else m z) := ⟨hn₂, fun b o e => hs₂.extBut b o (fun q => by rw [q, hL₀] at e; cases e) (F'.keep b o e), F'.above⟩
  refine ⟨m', hn.sameBut hs₂ hCL, fun h'' hs'' => hQ D h'' _ o kvs hdo hf (F₂.change hs'' hCL hC₀) (fun p hp => ?_) hLD offD⟩
  have z : h₂.get? p.1 = some p.2 := hs₂.extBut _ _ (N' p hp).2.1 (N' p hp).1
  refine ⟨hs''.extBut _ _ ?_ z, (N' p hp).2⟩
  rcases List.mem_cons.mp hp with rfl | hp
  · exact Ne.symm hCD
  · exact offC p hp
end
end R
end Mine
-- R10
namespace Mine
namespace R
section
variable {prog : Program} {w : World} {A : Around} {E : Value → Shared → Prop} {hp : Heap} {g : Array GenState} {d : Drawn} {tk : Nat} {os : OsState} {h₀ : Heap} {L l : Addr} {m : PySem.Str → Option Value} {news : List (Addr × Obj)} {value slice : PySem.Expr} {vs : List Value} {ns : List Int} {x y : Int} {t : Tok} {Q : Value → Shared → Prop}
theorem slice_to (F : Fr h₀ L hp m) (N : News h₀ L hp news) (hl : hp.IsList l vs.toArray) (hi : IntsAre vs ns) (h0 : 0 ≤ y) (hz : ns.length ≤ 16777216)
    (h : ∀ D ws h', Fr h₀ L h' m → News h₀ L h' ((D, listOf (List.toArray ws) 0) :: news) → (∀ p ∈ news, p.1 < D) → IntsAre ws (ns.take y.toNat) → Q (.ref D) ⟨h', g, d, tk, os⟩)
    (hs : subscripted slice false (.ref l) (.ref hp.objs.size) = operate [.ref hp.objs.size, .ref l] (getItem (.ref l) (.ref hp.objs.size))) (ht : ∀ r, letTemporaryGo value (.ref l) r = pure ()) :
    wpAny (model prog w) A (subscriptTail value slice (.ref l) (.ref hp.objs.size)) Q E ⟨hp.push { cls := .type "slice", data := .fields #[.none, .int y t, .none] }, g, d, tk, os⟩ :=
  kmk_slice_ints (s := ⟨hp, g, d, tk, os⟩) F N hl IsPart.none (IsPart.int _ _) hi (kmk_upto hi h0) rfl (fun D ws h' F' N' l1 hI _ _ => h D ws h' F' N' l1 hI) hs ht (by rw [List.size_toArray, hi.length, sizeLine_eq]; exact hz)
theorem slice_from (F : Fr h₀ L hp m) (N : News h₀ L hp news) (hl : hp.IsList l vs.toArray) (hi : IntsAre vs ns) (h0 : 0 ≤ x) (hz : ns.length ≤ 16777216)
    (h : ∀ D ws h', Fr h₀ L h' m → News h₀ L h' ((D, listOf (List.toArray ws) 0) :: news) → (∀ p ∈ news, p.1 < D) → IntsAre ws (ns.drop x.toNat) → Q (.ref D) ⟨h', g, d, tk, os⟩)
    (hs : subscripted slice false (.ref l) (.ref hp.objs.size) = operate [.ref hp.objs.size, .ref l] (getItem (.ref l) (.ref hp.objs.size))) (ht : ∀ r, letTemporaryGo value (.ref l) r = pure ()) :
    wpAny (model prog w) A (subscriptTail value slice (.ref l) (.ref hp.objs.size)) Q E ⟨hp.push { cls := .type "slice", data := .fields #[.int x t, .none, .none] }, g, d, tk, os⟩ :=
  kmk_slice_ints (s := ⟨hp, g, d, tk, os⟩) F N hl (IsPart.int _ _) IsPart.none hi (kmk_from hi h0) rfl (fun D ws h' F' N' l1 hI _ _ => h D ws h' F' N' l1 hI) hs ht (by rw [List.size_toArray, hi.length, sizeLine_eq]; exact hz)
end
end R
end Mine
-- P2
namespace Mine
theorem mem_first {G D M : Addr} {lo o1 o2 : Obj} {q : Addr × Obj} (hmem : (G, lo) ∈ q :: [(D, o1), (M, o2)]) (h1 : D < G) (h2 : M < G) : q = (G, lo) := by
  rcases List.mem_cons.mp hmem with e | hm
  · exact e.symm
  · rcases List.mem_cons.mp hm with e | hm
    · have e1 : G = D := congrArg Prod.fst e
      exact absurd e1 (Nat.ne_of_gt h1)
    · have e1 : G = M := congrArg Prod.fst (List.mem_singleton.mp hm)
      exact absurd e1 (Nat.ne_of_gt h2)
theorem foldl_filter (p : Int → Bool) (ks : List Int) : ks.foldl (fun l k => if p k = true then l ++ [k] else l) [] = ks.filter p := by
  have key : ∀ (ks l : List Int), ks.foldl (fun l k => if p k = true then l ++ [k] else l) l = l ++ ks.filter p := by
    intro ks
    induction ks with
    | nil => intro l; simp
    | cons k r ih =>
      intro l
      rw [List.foldl_cons, ih]
      by_cases h : p k = true
      · simp [h]
      · simp [h]
  simpa using key ks []
theorem LCg.off1_mem {D : Addr} : ∀ {l : List (Addr × Obj)}, PyProof.Rows.LCg.Off1 D l → ∀ p ∈ l, p.1 ≠ D
  | [], _, _, h => nomatch h
  | _ :: _, x, p, h => by
    rcases List.mem_cons.mp h with rfl | h
    · exact x.1
    · exact LCg.off1_mem x.2 p h
theorem nodup_inj {ks : List Int} (hd : ks.Nodup) {i j : Nat} (hi : i < ks.length) (hj : j < ks.length) (e : ks[i] = ks[j]) : i = j := by
  rw [List.nodup_iff_pairwise_ne, List.pairwise_iff_getElem] at hd
  rcases Nat.lt_trichotomy i j with h | h | h
  · exact absurd e (hd i j hi hj h)
  · exact h
  · exact absurd e.symm (hd j i hj hi h)
theorem look_cons (p : Int × Int) (c : List (Int × Int)) (x d : Int) : kdfLook (p :: c) x d = if p.1 = x then p.2 else kdfLook c x d := by
  unfold kdfLook
  rw [List.find?_cons]
  by_cases h : p.1 = x <;> simp [h]
theorem look_map (k v x d : Int) : ∀ c : List (Int × Int), kdfLook (c.map (fun p => if decide (p.1 = k) then (p.1, v) else p)) x d = if x = k ∧ kdfHas c k = true then v else kdfLook c x d
  | [] => by simp [kdfLook, kdfHas]
  | p :: r => by
    rw [List.map_cons, look_cons, look_map k v x d r, look_cons]
    have hh : kdfHas (p :: r) k = (decide (p.1 = k) || kdfHas r k) := rfl
    rw [hh]
    by_cases hp : p.1 = k
    · subst hp
      by_cases hx : x = p.1
      · subst hx
        simp
      · have hx2 : ¬ p.1 = x := fun e => hx e.symm
        simp [hx, hx2]
    · by_cases hx : p.1 = x
      · have hxk : ¬ x = k := fun e => hp (hx.trans e)
        simp [hp, hx, hxk]
      · simp [hp, hx]
theorem look_none {x d : Int} : ∀ {c : List (Int × Int)}, kdfHas c x = false → kdfLook c x d = d
  | [], _ => rfl
  | p :: r, h => by
    have hh : kdfHas (p :: r) x = (decide (p.1 = x) || kdfHas r x) := rfl
    rw [hh, Bool.or_eq_false_iff] at h
    rw [look_cons, if_neg (by simpa using h.1), look_none h.2]
theorem look_app (k v x d : Int) : ∀ c : List (Int × Int), kdfLook (c ++ [(k, v)]) x d = if kdfHas c x = true then kdfLook c x d else if k = x then v else d
  | [] => by
    by_cases h : k = x <;> simp [kdfLook, kdfHas, h]
  | p :: r => by
    have hh : kdfHas (p :: r) x = (decide (p.1 = x) || kdfHas r x) := rfl
    rw [List.cons_append, look_cons, look_app k v x d r, look_cons, hh]
    by_cases hx : p.1 = x <;> simp [hx]
theorem look_put (k v x d : Int) (c : List (Int × Int)) : kdfLook (kdfPut c k v) x d = if x = k then v else kdfLook c x d := by
  unfold kdfPut
  split
  · rename_i h
    have h' : kdfHas c k = true := h
    rw [look_map, h']
    simp
  · rename_i h
    have h' : kdfHas c k = false := by
      cases e : kdfHas c k with
      | false => rfl
      | true => exact absurd e h
    rw [look_app]
    by_cases hx : x = k
    · subst hx
      simp [h']
    · have hkx : ¬ k = x := fun e => hx e.symm
      by_cases hb : kdfHas c x = true
      · simp [hb, hx]
      · have hb' : kdfHas c x = false := by simpa using hb
        rw [look_none hb']
        simp [hb', hx, hkx]
theorem has_put (k v x : Int) (c : List (Int × Int)) : kdfHas (kdfPut c k v) x = (decide (x = k) || kdfHas c x) := by
  unfold kdfPut kdfHas
  split
  · rename_i h
    have h1 : ∀ c : List (Int × Int), ((c.map (fun p => if decide (p.1 = k) then (p.1, v) else p)).any fun p => decide (p.1 = x)) = c.any fun p => decide (p.1 = x) := by
      intro c
      induction c with
      | nil => rfl
      | cons p r ih =>
        rw [List.map_cons, List.any_cons, List.any_cons, ih]
        by_cases hp : p.1 = k <;> simp [hp]
    rw [h1]
    by_cases hx : x = k
    · subst hx
      simp [h]
    · simp [hx]
  · rw [List.any_append]
    by_cases hx : x = k
    · subst hx
      simp
    · have hkx : ¬ k = x := fun e => hx e.symm
      simp [hx, hkx]
theorem put_len (k v : Int) {c : List (Int × Int)} (h : kdfHas c k = true) : (kdfPut c k v).length = c.length := by
  unfold kdfHas at h
  unfold kdfPut
  rw [if_pos h, List.length_map]
theorem inv_has {ks : List Int} {x : Int} : ∀ {n : Nat}, n ≤ ks.length → (kdfHas (R.invI ks n) x = true ↔ x ∈ ks.take n)
  | 0, _ => by simp [R.invI, kdfHas]
  | n + 1, h => by
    have hn : n < ks.length := h
    have ih := inv_has (x := x) (Nat.le_of_lt hn)
    show kdfHas (kdfPut (R.invI ks n) (ks.getD n 0) (n : Int)) x = true ↔ _
    rw [has_put, Bool.or_eq_true, ih, List.take_add_one, List.mem_append, List.getElem?_eq_getElem hn, List.getD_eq_getElem?_getD, List.getElem?_eq_getElem hn]
    simp
    exact or_comm
theorem inv_look {ks : List Int} (hd : ks.Nodup) {i : Nat} : ∀ {n : Nat}, n ≤ ks.length → i < n → kdfLook (R.invI ks n) (ks.getD i 0) 0 = (i : Int)
  | 0, _, h => absurd h (Nat.not_lt_zero _)
  | n + 1, h, hi => by
    have hn : n < ks.length := h
    show kdfLook (kdfPut (R.invI ks n) (ks.getD n 0) (n : Int)) (ks.getD i 0) 0 = _
    rw [look_put]
    by_cases e : i = n
    · subst e
      rw [if_pos rfl]
    · have hin : i < ks.length := by omega
      have : ¬ ks.getD i 0 = ks.getD n 0 := by
        rw [List.getD_eq_getElem?_getD, List.getD_eq_getElem?_getD, List.getElem?_eq_getElem hin, List.getElem?_eq_getElem hn]
        intro e2
        exact e (nodup_inj hd hin hn e2)
      rw [if_neg this]
      exact inv_look hd (Nat.le_of_lt hn) (by omega)
end Mine
-- P1
namespace Mine
local macro_rules | `(tactic| walk_at "none") => `(tactic| fail)
local macro_rules | `(tactic| walk_at "none") => `(tactic| fail)
local macro_rules | `(tactic| walk_at "none") => `(tactic| fail)
local macro_rules | `(tactic| walk_at "none") => `(tactic| fail)
local macro_rules | `(tactic| walk_at "none") => `(tactic| fail)
local macro_rules | `(tactic| walk_at "none") => `(tactic| fail)
local macro_rules | `(tactic| walk_at "none") => `(tactic| fail)
local macro_rules | `(tactic| walk_at "none") => `(tactic| fail)
local macro_rules | `(tactic| walk_at "none") => `(tactic| fail)
theorem fresh_walk_P1 : True := by
 w_top off
 trivial
local macro_rules | `(tactic| walk1) => `(tactic| ((with_reducible show wpAny _ _ (exec (Stmt.While _ _ _ _) _) _ _ _); refine Stop.into ?_))
local macro_rules | `(tactic| walk1) => `(tactic| ((with_reducible show wpAny _ _ (exec (Stmt.For _ _ _ _ _) _) _ _ _); refine Stop.into ?_))
local macro_rules | `(tactic| walk1) => `(tactic| ((with_reducible show wpAny _ _ (pyIter _) _ _ _); refine Stop.into ?_))
local macro_rules | `(tactic| walk1) => `(tactic| ((with_reducible show wpAny _ _ (call (Value.ref _) _ _) _ _ _); refine Stop.into ?_))
local macro_rules | `(tactic| walk_at "getMethod bytes") => `(tactic| (with_reducible refine R.lstrip_method ?_))
local macro_rules | `(tactic| walk_at "getMethod bytes") => `(tactic| (with_reducible refine R.rstrip_method ?_))
local macro_rules | `(tactic| walk_at "getMethod str") => `(tactic| (with_reducible refine R.encode_method ?_))
local macro_rules | `(tactic| walk_at "call builtin:bytes.lstrip") => `(tactic| ((with_reducible show wpAny _ _ (call (Value.builtin "bytes.lstrip") [Value.bytes _ _, Value.bytes _ _]) _ _ _); (refine R.lstrip_call (by kba_ints2) (by kba_ints2) (by kba_size) ?_); intro _ _ _ hlst))
local macro_rules | `(tactic| walk_at "call builtin:bytes.rstrip") => `(tactic| ((with_reducible show wpAny _ _ (call (Value.builtin "bytes.rstrip") [Value.bytes _ _]) _ _ _); (refine R.rstrip_call (by kba_ints2) (by kba_size) ?_); intro _ _ _ hrst))
local macro_rules | `(tactic| walk_at "callWith ref") => `(tactic| (k_here; kfb_any; k_dflt (refine' R.fb_callWith ?hN ?hM ?ha ?_; (case hN => k_asm); (case hM => k_mem); (case ha => exact rfl); k_whole)))
local macro_rules | `(tactic| walk1) => `(tactic| ((with_reducible show wpAny _ _ (binaryOp Operator.Add (Value.bytes _ _) (Value.bytes _ _)) _ _ _); first | ((refine KBa.add_K (by kba_ints2) (by kba_ints2) (by ((try simp only [List.length_replicate, List.length_append, List.length_map, List.length_take, List.length_drop, List.length_cons, List.length_nil]); omega)) ?_); intro _ _ kbaApp) | (refine Stop.into ?_)))
theorem fdiv_pos (a : Int) {b : Int} (h : 0 ≤ b) : a.fdiv b = a / b := by rw [Int.fdiv_eq_ediv_of_nonneg _ h]
theorem fmod_pos (a : Int) {b : Int} (h : 0 ≤ b) : a.fmod b = a % b := by rw [Int.fmod_eq_emod_of_nonneg _ h]
def dig (base n : Nat) : List Nat := if h : 2 ≤ base ∧ n ≠ 0 then dig base (n / base) ++ [n % base] else []
termination_by n
decreasing_by exact Nat.div_lt_self (by omega) (by omega)
def encI (ks : List Int) (i : Int) : List Int := (dig ks.length i.toNat).map fun d => ks.getD d 0
theorem encI_step {ks : List Int} {j : Int} (hb : 2 ≤ ks.length) (hj : 0 < j) : encI ks j = encI ks (j / (ks.length : Int)) ++ [ks.getD (j % (ks.length : Int)).toNat 0] := by
  unfold encI
  have h1 : j.toNat ≠ 0 := by omega
  rw [dig, dif_pos ⟨hb, h1⟩]
  have e1 : (j / (ks.length : Int)).toNat = j.toNat / ks.length := by
    obtain ⟨n, rfl⟩ := Int.eq_ofNat_of_zero_le (Int.le_of_lt hj)
    simp
    norm_cast
  have e2 : (j % (ks.length : Int)).toNat = j.toNat % ks.length := by
    obtain ⟨n, rfl⟩ := Int.eq_ofNat_of_zero_le (Int.le_of_lt hj)
    simp
    norm_cast
  rw [e1, e2]
  simp
theorem encI_zero (ks : List Int) : encI ks 0 = [] := by
  unfold encI
  rw [dig, dif_neg (by simp)]
  rfl
def digNum (ks : List Int) (base : Int) : Int := ks.foldl (fun a k => a * base + k) 0
theorem digNum_from (base : Int) : ∀ (ks : List Int) (a : Int), ks.foldl (fun a k => a * base + k) a = a * base ^ ks.length + digNum ks base
  | [], a => by simp [digNum]
  | k :: r, a => by
    have h1 := digNum_from base r (a * base + k)
    have h2 : digNum (k :: r) base = (0 * base + k) * base ^ r.length + digNum r base := digNum_from base r (0 * base + k)
    rw [List.foldl_cons, h1, h2, List.length_cons, Int.pow_succ]
    grind
theorem digNum_cons (base k : Int) (r : List Int) : digNum (k :: r) base = k * base ^ r.length + digNum r base := by
  have : digNum (k :: r) base = (0 * base + k) * base ^ r.length + digNum r base := digNum_from base r (0 * base + k)
  rw [this]
  simp
theorem drop_back {ks : List Int} {i : Nat} (h : i < ks.length) : ks.drop (ks.length - (i + 1)) = ks.getD (ks.length - 1 - i) 0 :: ks.drop (ks.length - i) := by
  have e : ks.length - i = ks.length - (i + 1) + 1 := by omega
  have h1 : ks.length - (i + 1) < ks.length := by omega
  rw [e, List.drop_eq_getElem_cons h1, List.getD_eq_getElem?_getD]
  have e2 : ks.length - 1 - i = ks.length - (i + 1) := by omega
  rw [e2, List.getElem?_eq_getElem h1]
  rfl
theorem mul_left {a b : Int} (h0 : 0 ≤ a) (h1 : a < 1000000) : IntMulOk a b := IntMulOk.of_left (intBits_le_iff.mpr (by omega))
theorem mul_right {a b : Int} (h0 : 0 ≤ b) (h1 : b < 1000000) : IntMulOk a b := IntMulOk.of_right (intBits_le_iff.mpr (by omega))
def nough (ks : List Int) : Nat := (ks.takeWhile fun k => decide (k = 0)).length
theorem nough_nil : nough [] = 0 := rfl
theorem nough_zero (r : List Int) : nough (0 :: r) = nough r + 1 := by simp [nough]
theorem nough_pos {k : Int} (h : k ≠ 0) (r : List Int) : nough (k :: r) = 0 := by simp [nough, h]
theorem drop_at {ks : List Int} {i : Nat} (h : i < ks.length) : ks.drop i = ks.getD i 0 :: ks.drop (i + 1) := by
  rw [List.drop_eq_getElem_cons h, List.getD_eq_getElem?_getD, List.getElem?_eq_getElem h]
  rfl
def ledN (b n : Nat) : List Nat := if h : 2 ≤ b ∧ n ≠ 0 then n % b :: ledN b (n / b) else []
termination_by n
decreasing_by exact Nat.div_lt_self (by omega) (by omega)
/-- the digits of an int, least first -/
def ledI (new c : Int) : List Int := List.map (fun d : Nat => (d : Int)) (ledN new.toNat c.toNat)
def carr (old new : Int) : List Int → Int → List Int
  | [], c => ledI new c
  | d :: r, c => (c + d * old) % new :: carr old new r ((c + d * old) / new)
theorem ledI_zero {new c : Int} (h : c ≤ 0) : ledI new c = [] := by
  unfold ledI
  rw [ledN, dif_neg (by omega)]
  rfl
theorem ledI_step {new c : Int} (hb : 2 ≤ new) (h : 0 < c) : ledI new c = c % new :: ledI new (c / new) := by
  obtain ⟨b, rfl⟩ := Int.eq_ofNat_of_zero_le (by omega : 0 ≤ new)
  obtain ⟨n, rfl⟩ := Int.eq_ofNat_of_zero_le (by omega : 0 ≤ c)
  unfold ledI
  rw [ledN, dif_pos (by omega)]
  have e1 : ((n : Int) / (b : Int)).toNat = n / b := by norm_cast
  rw [List.map_cons, e1]
  simp
theorem emod_in {a b : Int} (h : 0 < b) : 0 ≤ a % b ∧ a % b < b := ⟨Int.emod_nonneg _ (by omega), Int.emod_lt_of_pos _ h⟩
theorem carr_in {old new : Int} (hn : 2 ≤ new) : ∀ (ds : List Int) (c : Int), ∀ x ∈ carr old new ds c, 0 ≤ x ∧ x < new
  | [], c, x, hx => by
    show 0 ≤ x ∧ x < new
    unfold carr ledI at hx
    obtain ⟨d, hd, rfl⟩ := List.mem_map.mp hx
    have key : ∀ n : Nat, ∀ d ∈ ledN new.toNat n, d < new.toNat := by
      intro n
      induction n using Nat.strongRecOn with
      | ind n ih =>
        intro d hd
        rw [ledN] at hd
        split at hd
        · rename_i h
          rcases List.mem_cons.mp hd with rfl | hd
          · exact Nat.mod_lt _ (by omega)
          · exact ih _ (Nat.div_lt_self (by omega) (by omega)) d hd
        · cases hd
    have := key _ d hd
    omega
  | d :: r, c, x, hx => by
    unfold carr at hx
    rcases List.mem_cons.mp hx with rfl | hx
    · exact emod_in (by omega)
    · exact carr_in hn r _ x hx
theorem take_set {v : Int} : ∀ (ds : List Int) (j : Nat), j < ds.length → (ds.set j v).take (j + 1) = ds.take j ++ [v]
  | [], _, h => absurd h (Nat.not_lt_zero _)
  | d :: r, 0, _ => by simp
  | d :: r, j + 1, h => by
    have ih := take_set (v := v) r j (Nat.lt_of_succ_lt_succ h)
    show d :: (r.set j v).take (j + 1) = d :: r.take j ++ [v]
    rw [ih]
    rfl
theorem drop_set {v : Int} : ∀ (ds : List Int) (j : Nat), (ds.set j v).drop (j + 1) = ds.drop (j + 1)
  | [], _ => by simp
  | d :: r, 0 => by simp
  | d :: r, j + 1 => by
    show (r.set j v).drop (j + 1) = r.drop (j + 1)
    exact drop_set r j
theorem mem_set_in {v : Int} {P : Int → Prop} {ds : List Int} {j : Nat} (h : ∀ d ∈ ds, P d) (hv : P v) : ∀ d ∈ ds.set j v, P d := fun d hd => by
  rcases List.mem_or_eq_of_mem_set hd with h1 | h1
  · exact h d h1
  · exact h1 ▸ hv
theorem getD_in {P : Int → Prop} {ds : List Int} {j : Nat} (h : ∀ d ∈ ds, P d) (hj : j < ds.length) : P (ds.getD j 0) := by
  rw [List.getD_eq_getElem?_getD, List.getElem?_eq_getElem hj]
  exact h _ (List.getElem_mem hj)
theorem foldl_carr_in {old new : Int} (hn : 2 ≤ new) : ∀ (ks ds : List Int), (∀ d ∈ ds, 0 ≤ d ∧ d < new) → ∀ d ∈ List.foldl (carr old new) ds ks, 0 ≤ d ∧ d < new
  | [], _, h => h
  | k :: r, ds, _ => foldl_carr_in hn r _ (carr_in hn ds k)
theorem foldl_take {α β : Type} (f : β → α → β) (b : β) {ks : List α} {i : Nat} {x : α} (h : ks[i]? = some x) : List.foldl f b (ks.take (i + 1)) = f (List.foldl f b (ks.take i)) x := by
  rw [List.take_add_one, h]
  simp
theorem sub_a {α : Type} {a : α} {l r : List α} : ∀ p ∈ a :: l, p ∈ a :: (l ++ r) := fun p hp => by
  rcases List.mem_cons.mp hp with rfl | h
  · exact .head _
  · exact .tail _ (List.mem_append_left _ h)
theorem sub_b {α : Type} {a : α} {l r : List α} : ∀ p ∈ r, p ∈ a :: (l ++ r) := fun _ hp => .tail _ (List.mem_append_right _ hp)
theorem sub_c {α : Type} {a : α} {l : List α} : ∀ p ∈ l, p ∈ a :: l := fun _ hp => .tail _ hp
theorem sub_d {α : Type} {a : α} {l : List α} : ∀ p ∈ [a], p ∈ a :: l := fun _ hp => by
  rw [List.mem_singleton.mp hp]
  exact .head _
theorem clip_in {n : Nat} {j : Int} (h0 : 0 ≤ j) (h1 : j ≤ n) : clipAt n j = j.toNat := by
  obtain ⟨k, rfl⟩ := Int.eq_ofNat_of_zero_le h0
  rw [clipAt_nat]
  omega
theorem pick_one {ks : List Int} {j : Int} (h0 : 0 ≤ j) (h1 : j < ks.length) : (ks.drop (clipAt ks.length j)).take (clipAt ks.length (j + 1) - clipAt ks.length j) = [ks.getD j.toNat 0] := by
  rw [clip_in h0 (by omega), clip_in (by omega) (by omega)]
  have e : (j + 1).toNat - j.toNat = 1 := by omega
  have h : j.toNat < ks.length := by omega
  rw [e, List.getD_eq_getElem?_getD, List.getElem?_eq_getElem h, List.take_one, List.head?_drop, List.getElem?_eq_getElem h]
  rfl
theorem drop_nough : ∀ (ks : List Int), ks.dropWhile (fun k => decide (k = 0)) = ks.drop (nough ks)
  | [] => rfl
  | k :: r => by
    by_cases h : k = 0
    · subst h
      rw [List.dropWhile_cons_of_pos (by simp), nough_zero, List.drop_succ_cons, drop_nough r]
    · rw [List.dropWhile_cons_of_neg (by simp [h]), nough_pos h, List.drop_zero]
theorem nough_le : ∀ (ks : List Int), nough ks ≤ ks.length := fun ks => (List.takeWhile_sublist _).length_le
theorem digNum_drop (base : Int) : ∀ (ks : List Int), digNum (ks.drop (nough ks)) base = digNum ks base
  | [] => rfl
  | k :: r => by
    by_cases h : k = 0
    · subst h
      rw [nough_zero, List.drop_succ_cons, digNum_drop base r, digNum_cons, Int.zero_mul, Int.zero_add]
    · rw [nough_pos h, List.drop_zero]
theorem digNum_nonneg {base : Int} (hb : 0 ≤ base) : ∀ {ks : List Int}, (∀ k ∈ ks, 0 ≤ k) → 0 ≤ digNum ks base
  | [], _ => Int.le_refl _
  | k :: r, h => by
    rw [digNum_cons]
    have h1 := digNum_nonneg hb (ks := r) fun x hx => h x (.tail _ hx)
    have h2 := Int.mul_nonneg (h k (.head _)) (Int.pow_nonneg hb : 0 ≤ base ^ r.length)
    omega
theorem ints_nonneg {b : Array UInt8} {ks : List Int} (hb : KBw.bInts b = ks) : ∀ k ∈ ks, 0 ≤ k := fun k hk => by
  subst hb
  exact (KBw.ints_in hk).1
theorem ints_lt {b : Array UInt8} {ks : List Int} (hb : KBw.bInts b = ks) : ∀ k ∈ ks, 0 ≤ k ∧ k < 256 := fun k hk => by
  subst hb
  exact KBw.ints_in hk
theorem scrub_b_ct (w : World) (b : Array UInt8) (ta : Nat) :
    Ct (PySem.Challenge.rw_eg5003_01.row.prog) w (Mine.hd.heap_39 w.params) 21 5 (fun _ => True) [.bytes b ta] [] (fun v nw => nw = [] ∧ v = .bytes b ta) := by
  k_fill
  refine' Ct.of (by k_is) (by k_is) (fun s _ => BindsTo.of_eq rfl) (locs rfl) rfl rfl rfl (by decide) (fun _ _ _ x => x) ?_
  intro p loose mean mg mb dp un gd outer A₀ base g L s Q B F X N T hpre hd hu hret
  k_steps
  dsimp only
  exact hret _ [] _ _ _ ⟨rfl, rfl⟩ F N
theorem scrub_s_ct (w : World) (x : PySem.Str) (ta : Nat) (hx : ∀ c ∈ x.cps, c < 128) (hz : x.length ≤ 1000) :
    Ct (PySem.Challenge.rw_eg5003_01.row.prog) w (Mine.hd.heap_39 w.params) 21 5 (fun _ => True) [.str x ta] [] (fun v nw => nw = [] ∧ ∃ t, v = .bytes (x.cps.map fun c => c.toUInt8) t) := by
  k_fill
  refine' Ct.of (by k_is) (by k_is) (fun s _ => BindsTo.of_eq rfl) (locs rfl) rfl rfl rfl (by decide) (fun _ _ _ x => x) ?_
  intro p loose mean mg mb dp un gd outer A₀ base g L s Q B F X N T hpre hd hu hret
  k_steps
  refine R.encode_call hx (by rw [sizeLine_eq]; omega) ?_
  intro t' k'
  k_steps
  dsimp only
  rename Fr _ _ _ _ => F1
  rename News _ _ _ _ => N1
  exact hret _ [] _ _ _ ⟨rfl, t', rfl⟩ F1 N1
theorem enc_int_ct (w : World) (i : Int) (d : Bool) (b : Array UInt8) (ks : List Int) (tk tk' : Nat) (hi : 0 ≤ i) (hb : KBw.bInts b = ks) (h2 : 2 ≤ ks.length) (h3 : ks.length ≤ 200) (h4 : (encI ks i).length ≤ 10000) :
    Ct (PySem.Challenge.rw_eg5003_01.row.prog) w (Mine.hd.heap_39 w.params) 29 5 (fun _ => True) [.int i tk, .bool d, .bytes b tk'] [] (fun v nw => nw = [] ∧ ∃ r t, v = .bytes r t ∧ KBw.bInts r = if i = 0 ∧ d = true then ks.take 1 else encI ks i) := by
  k_fill
  refine' Ct.of (by k_is) (by k_is) (fun s X => by exact binds_K X rfl (by k_is) rfl rfl rfl) (locs rfl) rfl rfl rfl (by decide) (fun _ _ k x => x) ?_
  intro p loose mean mg mb dp un gd outer A₀ base g L s Q B F X N T hpre hd hu hret
  have hsz : b.size = ks.length := by rw [← hb, KBw.ints_length]
  k_steps
  any_goals (
    refine Stop.out ?_
    rename Fr _ _ _ _ => F1
    rename News _ _ _ _ => N1
    refine' While_inv2 (fun n m nw => nw = [] ∧ ∃ (j : Int) (st : Array UInt8) (ss : List Int) (t1 t2 t3 : Nat), KBw.bInts st = ss ∧ 0 ≤ j ∧ n = j.toNat ∧ m "i" = some (.int j t1) ∧ m "string" = some (.bytes st t2) ∧ m "alphabet" = some (.bytes b tk') ∧ m "base" = some (.int (ks.length : Int) t3) ∧ encI ks i = encI ks j ++ ss)
      F1 N1 ⟨rfl, i, _, [], _, _, _, rfl, hi, rfl, rfl, rfl, rfl, rfl, by simp⟩ ?_ PassesOwn.never
    rintro n m₁ nw h₁ tk₁ F₁ N₁ ⟨rfl, j, st, ss, t1, t2, t3, hst, hj, rfl, e1, e2, e3, e4, henc⟩
    have F₂ := fr_pin [("i", .int j t1), ("string", .bytes st t2), ("alphabet", .bytes b tk'), ("base", .int (ks.length : Int) t3)] (by simp [e1, e2, e3, e4]) F₁
    clear F1 N1 F₁
    have hss : ss.length ≤ 10000 := by
      have := congrArg List.length henc
      rw [List.length_append] at this
      omega
    k_steps
    · have hidx : 0 ≤ j.fmod (ks.length : Int) ∧ j.fmod (ks.length : Int) < ks.length := by
        rw [fmod_pos _ (by omega)]
        exact ⟨Int.emod_nonneg _ (by omega), Int.emod_lt_of_pos _ (by omega)⟩
      rename KBw.bInts (KBy.picked _ _ _) = _ => kb
      k_steps
      rename KBw.bInts (KBy.picked _ _ _ ++ _) = _ => kb
      rw [pick_one hidx.1 hidx.2] at kb
      rename Fr _ _ _ _ => F3
      rename News _ _ _ _ => N3
      have hdv : 0 ≤ j.fdiv (ks.length : Int) ∧ (j.fdiv (ks.length : Int)).toNat < j.toNat := by
        rw [fdiv_pos _ (by omega)]
        have h1 := Int.ediv_nonneg hj (by omega : (0 : Int) ≤ ks.length)
        have h2 : j / (ks.length : Int) < j := Int.ediv_lt_of_lt_mul (by omega) (by
          have : j * 2 ≤ j * (ks.length : Int) := Int.mul_le_mul_of_nonneg_left (by omega) hj
          omega)
        omega
      refine ⟨_, _, _, [], _, rfl, F3, news_sub N3 (by simp), hdv.2, rfl, _, _, _, _, _, _, kb, hdv.1, rfl, rfl, rfl, rfl, rfl, ?_⟩
      rw [henc, encI_step h2 (by omega), fdiv_pos _ (by omega), fmod_pos _ (by omega)]
      simp
    · dsimp only
      refine hret _ [] _ _ _ ⟨rfl, st, _, rfl, ?_⟩ F₂ N₁
      rw [if_neg (by simp_all)]
      rename j = 0 => hj0
      rw [hst, henc, hj0, encI_zero]
      rfl)
  · dsimp only
    rename KBw.bInts _ = List.take _ _ => kb
    rename Fr _ _ _ _ => F3
    rename News _ _ _ _ => N3
    refine hret _ [] _ _ _ ⟨rfl, _, _, rfl, ?_⟩ F3 N3
    rw [if_pos (by simp_all), kb, show clipAt ks.length 0 = 0 from clip_in (by omega) (by omega), show clipAt ks.length 1 = 1 from clip_in (by omega) (by omega)]
    rfl
theorem enc_int_kw (w : World) (i : Int) (d : Bool) (b : Array UInt8) (ks : List Int) (tk tk' : Nat) (hi : 0 ≤ i) (hb : KBw.bInts b = ks) (h2 : 2 ≤ ks.length) (h3 : ks.length ≤ 200) (h4 : (encI ks i).length ≤ 10000) :
    Ct (PySem.Challenge.rw_eg5003_01.row.prog) w (Mine.hd.heap_39 w.params) 29 5 (fun _ => True) [.int i tk] [("default_one", .bool d), ("alphabet", .bytes b tk')] (fun v nw => nw = [] ∧ ∃ r t, v = .bytes r t ∧ KBw.bInts r = if i = 0 ∧ d = true then ks.take 1 else encI ks i) := by
  k_fill
  refine' Ct.of (by k_is) (by k_is) (fun s X => by exact binds_K X rfl (by k_is) rfl rfl rfl) (locs rfl) rfl rfl rfl (by decide) (fun _ _ k x => x) ?_
  intro p loose mean mg mb dp un gd outer A₀ base g L s Q B F X N T hpre hd hu hret
  have hsz : b.size = ks.length := by rw [← hb, KBw.ints_length]
  k_steps
  any_goals (
    refine Stop.out ?_
    rename Fr _ _ _ _ => F1
    rename News _ _ _ _ => N1
    refine' While_inv2 (fun n m nw => nw = [] ∧ ∃ (j : Int) (st : Array UInt8) (ss : List Int) (t1 t2 t3 : Nat), KBw.bInts st = ss ∧ 0 ≤ j ∧ n = j.toNat ∧ m "i" = some (.int j t1) ∧ m "string" = some (.bytes st t2) ∧ m "alphabet" = some (.bytes b tk') ∧ m "base" = some (.int (ks.length : Int) t3) ∧ encI ks i = encI ks j ++ ss)
      F1 N1 ⟨rfl, i, _, [], _, _, _, rfl, hi, rfl, rfl, rfl, rfl, rfl, by simp⟩ ?_ PassesOwn.never
    rintro n m₁ nw h₁ tk₁ F₁ N₁ ⟨rfl, j, st, ss, t1, t2, t3, hst, hj, rfl, e1, e2, e3, e4, henc⟩
    have F₂ := fr_pin [("i", .int j t1), ("string", .bytes st t2), ("alphabet", .bytes b tk'), ("base", .int (ks.length : Int) t3)] (by simp [e1, e2, e3, e4]) F₁
    clear F1 N1 F₁
    have hss : ss.length ≤ 10000 := by
      have := congrArg List.length henc
      rw [List.length_append] at this
      omega
    k_steps
    · have hidx : 0 ≤ j.fmod (ks.length : Int) ∧ j.fmod (ks.length : Int) < ks.length := by
        rw [fmod_pos _ (by omega)]
        exact ⟨Int.emod_nonneg _ (by omega), Int.emod_lt_of_pos _ (by omega)⟩
      rename KBw.bInts (KBy.picked _ _ _) = _ => kb
      k_steps
      rename KBw.bInts (KBy.picked _ _ _ ++ _) = _ => kb
      rw [pick_one hidx.1 hidx.2] at kb
      rename Fr _ _ _ _ => F3
      rename News _ _ _ _ => N3
      have hdv : 0 ≤ j.fdiv (ks.length : Int) ∧ (j.fdiv (ks.length : Int)).toNat < j.toNat := by
        rw [fdiv_pos _ (by omega)]
        have h1 := Int.ediv_nonneg hj (by omega : (0 : Int) ≤ ks.length)
        have h2 : j / (ks.length : Int) < j := Int.ediv_lt_of_lt_mul (by omega) (by
          have : j * 2 ≤ j * (ks.length : Int) := Int.mul_le_mul_of_nonneg_left (by omega) hj
          omega)
        omega
      refine ⟨_, _, _, [], _, rfl, F3, news_sub N3 (by simp), hdv.2, rfl, _, _, _, _, _, _, kb, hdv.1, rfl, rfl, rfl, rfl, rfl, ?_⟩
      rw [henc, encI_step h2 (by omega), fdiv_pos _ (by omega), fmod_pos _ (by omega)]
      simp
    · dsimp only
      refine hret _ [] _ _ _ ⟨rfl, st, _, rfl, ?_⟩ F₂ N₁
      rw [if_neg (by simp_all)]
      rename j = 0 => hj0
      rw [hst, henc, hj0, encI_zero]
      rfl)
  · dsimp only
    rename KBw.bInts _ = List.take _ _ => kb
    rename Fr _ _ _ _ => F3
    rename News _ _ _ _ => N3
    refine hret _ [] _ _ _ ⟨rfl, _, _, rfl, ?_⟩ F3 N3
    rw [if_pos (by simp_all), kb, show clipAt ks.length 0 = 0 from clip_in (by omega) (by omega), show clipAt ks.length 1 = 1 from clip_in (by omega) (by omega)]
    rfl
end Mine
-- C10
namespace Mine
local macro_rules | `(tactic| walk_at "none") => `(tactic| fail)
local macro_rules | `(tactic| walk_at "none") => `(tactic| fail)
local macro_rules | `(tactic| walk_at "none") => `(tactic| fail)
local macro_rules | `(tactic| walk_at "none") => `(tactic| fail)
local macro_rules | `(tactic| walk_at "none") => `(tactic| fail)
local macro_rules | `(tactic| walk_at "none") => `(tactic| fail)
local macro_rules | `(tactic| walk_at "none") => `(tactic| fail)
local macro_rules | `(tactic| walk_at "none") => `(tactic| fail)
theorem fresh_walk_C10 : True := by
 w_top off
 trivial
local macro_rules | `(tactic| walk1) => `(tactic| ((with_reducible show wpAny _ _ (exec (Stmt.While _ _ _ _) _) _ _ _); refine Stop.into ?_))
local macro_rules | `(tactic| walk1) => `(tactic| ((with_reducible show wpAny _ _ (exec (Stmt.For _ _ _ _ _) _) _ _ _); refine Stop.into ?_))
local macro_rules | `(tactic| walk1) => `(tactic| ((with_reducible show wpAny _ _ (pyIter _) _ _ _); refine Stop.into ?_))
local macro_rules | `(tactic| walk1) => `(tactic| ((with_reducible show wpAny _ _ (call (Value.ref _) _ _) _ _ _); refine Stop.into ?_))
local macro_rules | `(tactic| walk_at "getMethod bytes") => `(tactic| (with_reducible refine R.lstrip_method ?_))
local macro_rules | `(tactic| walk_at "getMethod bytes") => `(tactic| (with_reducible refine R.rstrip_method ?_))
local macro_rules | `(tactic| walk_at "getMethod str") => `(tactic| (with_reducible refine R.encode_method ?_))
local macro_rules | `(tactic| walk_at "call builtin:bytes.lstrip") => `(tactic| ((with_reducible show wpAny _ _ (call (Value.builtin "bytes.lstrip") [Value.bytes _ _, Value.bytes _ _]) _ _ _); (refine R.lstrip_call (by kba_ints2) (by kba_ints2) (by kba_size) ?_); intro _ _ _ hlst))
local macro_rules | `(tactic| walk_at "call builtin:bytes.rstrip") => `(tactic| ((with_reducible show wpAny _ _ (call (Value.builtin "bytes.rstrip") [Value.bytes _ _]) _ _ _); (refine R.rstrip_call (by kba_ints2) (by kba_size) ?_); intro _ _ _ hrst))
local macro_rules | `(tactic| walk_at "callWith ref") => `(tactic| (k_here; kfb_any; k_dflt (refine' R.fb_callWith ?hN ?hM ?ha ?_; (case hN => k_asm); (case hM => k_mem); (case ha => exact rfl); k_whole)))
local macro_rules | `(tactic| walk1) => `(tactic| ((with_reducible show wpAny _ _ (binaryOp Operator.Add (Value.bytes _ _) (Value.bytes _ _)) _ _ _); first | ((refine KBa.add_K (by kba_ints2) (by kba_ints2) (by ((try simp only [List.length_replicate, List.length_append, List.length_map, List.length_take, List.length_drop, List.length_cons, List.length_nil]); omega)) ?_); intro _ _ kbaApp) | (refine Stop.into ?_)))
theorem enc_ct (w : World) (b sg : Array UInt8) (ks ss : List Int) (ta tb : Nat) (hb : KBw.bInts b = ks) (hs : KBw.bInts sg = ss) (h2 : 2 ≤ ss.length) (h3 : ss.length ≤ 200) (h4 : ks.length ≤ 200) (h5 : (encI ss (digNum ks 256)).length ≤ 10000) :
    Ct (PySem.Challenge.rw_eg5003_01.row.prog) w (Mine.hd.heap_39 w.params) 37 15 (fun _ => True) [.bytes b ta, .bytes sg tb] [] (fun v nw => nw = [] ∧ ∃ r t, v = .bytes r t ∧ KBw.bInts r = List.replicate (nough ks) (ss.getD 0 0) ++ encI ss (digNum ks 256)) := by
  k_fill
  refine' Ct.of (by k_is) (by k_is) (fun s X => by exact binds_K X rfl (by k_is) rfl rfl rfl) (locs rfl) rfl rfl rfl (by decide) (fun _ _ k x => x) ?_
  intro p loose mean mg mb dp un gd outer A₀ base g L s Q B F X N T hpre hd hu hret
  k_steps
  refine Stop.out ?_
  refine (scrub_b_ct w b ta).use B F X N T rfl trivial (by omega) (by omega) ?_
  rintro v nw h' tk' ⟨rfl, rfl⟩ k1 fr1 F1 N1
  k_steps
  rename KBw.bInts _ = List.dropWhile _ _ => hl
  have hl2 : ks.dropWhile (fun x => decide (x ∈ List.map (fun c : UInt8 => (c.toNat : Int)) [0])) = ks.drop (nough ks) := by
    rw [← drop_nough]
    congr 1
    funext x
    simp
  rw [hl2] at hl
  have hz5 := nough_le ks
  k_steps
  refine Stop.out ?_
  rename News _ _ _ _ => N2
  rename Fr _ _ _ _ => F2
  refine R.fb_call N2 (.head _) hl (by rw [List.length_drop]; omega) ?_
  intro t3 k3
  have hdn : List.foldl (fun a k => a * 256 + k) 0 (ks.drop (nough ks)) = digNum ks 256 := digNum_drop 256 ks
  rw [hdn]
  k_steps
  refine Stop.out ?_
  rename News _ _ _ _ => N3
  rename Fr _ _ _ _ => F3
  refine' (enc_int_kw w (digNum ks 256) false sg ss t3 tb (digNum_nonneg (by decide) (ints_nonneg hb)) hs h2 h3 h5).use B F3 X N3 T rfl trivial ?hd ?hu ?_
  case hd => omega
  case hu => omega
  rintro v nw h' tk' ⟨rfl, r5, t5, rfl, hr5⟩ k5 fr5 F5 N5
  rw [if_neg (by simp)] at hr5
  k_steps
  rename KBw.bInts (KBy.picked _ _ _) = _ => h01
  have h01' : KBw.bInts (KBy.picked sg (some 0) (some 1)) = [ss.getD 0 0] := by
    rw [h01]
    exact pick_one (j := 0) (by omega) (by omega)
  refine R.mul_call h01' (by omega) (by omega) ?_
  intro r6 t6 k6 hr6
  have hnn : ((ks.length : Int) - ((ks.length - nough ks : Nat) : Int)).toNat = nough ks := by omega
  rw [hnn] at hr6
  k_steps
  rename KBw.bInts (_ ++ _) = _ => hfin
  rename Fr _ _ _ _ => F9
  rename News _ _ _ _ => N9
  dsimp only
  exact hret _ [] _ _ _ ⟨rfl, _, _, rfl, hfin⟩ F9 News.nil
end Mine
-- M1
namespace Mine
local macro_rules | `(tactic| walk_at "none") => `(tactic| fail)
local macro_rules | `(tactic| walk_at "none") => `(tactic| fail)
local macro_rules | `(tactic| walk_at "none") => `(tactic| fail)
local macro_rules | `(tactic| walk_at "none") => `(tactic| fail)
local macro_rules | `(tactic| walk_at "none") => `(tactic| fail)
local macro_rules | `(tactic| walk_at "none") => `(tactic| fail)
local macro_rules | `(tactic| walk_at "none") => `(tactic| fail)
local macro_rules | `(tactic| walk_at "none") => `(tactic| fail)
local macro_rules | `(tactic| walk_at "none") => `(tactic| fail)
theorem fresh_walk_M1 : True := by
 w_top off
 trivial
local macro_rules | `(tactic| walk1) => `(tactic| ((with_reducible show wpAny _ _ (exec (Stmt.While _ _ _ _) _) _ _ _); refine Stop.into ?_))
local macro_rules | `(tactic| walk1) => `(tactic| ((with_reducible show wpAny _ _ (exec (Stmt.For _ _ _ _ _) _) _ _ _); refine Stop.into ?_))
local macro_rules | `(tactic| walk1) => `(tactic| ((with_reducible show wpAny _ _ (pyIter _) _ _ _); refine Stop.into ?_))
local macro_rules | `(tactic| walk1) => `(tactic| ((with_reducible show wpAny _ _ (call (Value.ref _) _ _) _ _ _); refine Stop.into ?_))
local macro_rules | `(tactic| walk_at "getMethod bytes") => `(tactic| (with_reducible refine R.lstrip_method ?_))
local macro_rules | `(tactic| walk_at "getMethod bytes") => `(tactic| (with_reducible refine R.rstrip_method ?_))
local macro_rules | `(tactic| walk_at "getMethod str") => `(tactic| (with_reducible refine R.encode_method ?_))
local macro_rules | `(tactic| walk_at "call builtin:bytes.lstrip") => `(tactic| ((with_reducible show wpAny _ _ (call (Value.builtin "bytes.lstrip") [Value.bytes _ _, Value.bytes _ _]) _ _ _); (refine R.lstrip_call (by kba_ints2) (by kba_ints2) (by kba_size) ?_); intro _ _ _ hlst))
local macro_rules | `(tactic| walk_at "call builtin:bytes.rstrip") => `(tactic| ((with_reducible show wpAny _ _ (call (Value.builtin "bytes.rstrip") [Value.bytes _ _]) _ _ _); (refine R.rstrip_call (by kba_ints2) (by kba_size) ?_); intro _ _ _ hrst))
local macro_rules | `(tactic| walk_at "callWith ref") => `(tactic| (k_here; kfb_any; k_dflt (refine' R.fb_callWith ?hN ?hM ?ha ?_; (case hN => k_asm); (case hM => k_mem); (case ha => exact rfl); k_whole)))
local macro_rules | `(tactic| walk1) => `(tactic| ((with_reducible show wpAny _ _ (binaryOp Operator.Add (Value.bytes _ _) (Value.bytes _ _)) _ _ _); first | ((refine KBa.add_K (by kba_ints2) (by kba_ints2) (by ((try simp only [List.length_replicate, List.length_append, List.length_map, List.length_take, List.length_drop, List.length_cons, List.length_nil]); omega)) ?_); intro _ _ kbaApp) | (refine Stop.into ?_)))
local macro_rules | `(tactic| walk1) => `(tactic| ((with_reducible show wpAny _ _ (exec (Stmt.Assign _ (PySem.Expr.DictComp _ _ _ _ _) _) _) _ _ _); refine Stop.into ?_))
local macro_rules | `(tactic| walk1) => `(tactic| ((with_reducible show wpAny _ _ (call (Value.type "enumerate") _ _) _ _ _); refine Stop.into ?_))
local macro_rules | `(tactic| walk1) => `(tactic| ((with_reducible show wpAny _ _ (exec (Stmt.Assign _ (PySem.Expr.ListComp _ _ _ _) _) _) _ _ _); refine Stop.into ?_))
theorem map_ct (w : World) (b : Array UInt8) (ks : List Int) (ta : Nat) (hb : KBw.bInts b = ks) (hz : ks.length ≤ 200) :
    Ct (PySem.Challenge.rw_eg5003_01.row.prog) w (Mine.hd.heap_39 w.params) 42 5 (fun _ => True) [.bytes b ta] [("autofix", .bool false)] (fun v nw => ∃ D o kvs, v = .ref D ∧ nw = [(D, o)] ∧ (D == sysModules) = false ∧ o.IsDictOf (PySem.intKind (PySem.Challenge.rw_eg5003_01.row.prog) w) kvs ∧ PyProof.V.FlatPairs PyData.int kvs (kdfD (R.invI ks ks.length))) := by
  k_fill
  refine' Ct.ofC (by k_is) (by k_is) (fun s X => by first | exact BindsTo.of_eq rfl | exact binds_K X rfl (by k_is) rfl rfl rfl) (by rfl) (by decide) rfl rfl rfl (fun _ _ k x => x) ?_
  intro p loose mean mg mb dp un gd outer A₀ base g L s Q cells B F X N Y T hpre hd hu hret
  obtain ⟨oc, hE, d1⟩ := PyProof.Rows.CellsAre.one Y
  subst hE
  clear Y
  replace d1 : oc.data = .cell none := d1
  have F := fr_pin [("alphabet", .bytes b ta), ("autofix", .bool false)] (by simp only [List.forall_mem_cons]; exact ⟨rfl, rfl, by simp⟩) F
  k_steps
  refine Stop.out ?_
  refine R.assign_rule (by rfl) ?_
  refine R.DictComp_enumB F N hb (by omega) (by rfl) (by rfl) (by decide) (by rfl) (by decide) (by rfl) (by rfl) (by decide) (by decide) (by decide) ?_
  k_steps
  refine Stop.out ?_
  rename Fr _ _ _ _ => F1
  rename News _ _ _ _ => N1
  refine R.call_enumerate_bytes ?_
  intro h' he hit hsz hk
  have hL : L < s.heap.objs.size := F1.ns.lt
  refine ⟨_, _, _, rfl, Nat.ne_of_gt (Nat.lt_succ_self _), he, hit, F1.keeps hk, fun p hp => ⟨hk _ _ (N1 p hp).1, (N1 p hp).2⟩, Nat.ne_of_lt (Nat.lt_succ_of_lt hL), Nat.ne_of_lt hL, R.new_at F1 (Nat.le_succ _), R.new_at F1 (Nat.le_refl _), fun p hp => ⟨Nat.ne_of_lt (Nat.lt_succ_of_lt (Heap.lt_size (N1 p hp).1)), Nat.ne_of_lt (Heap.lt_size (N1 p hp).1)⟩, ?_⟩
  intro D h2 tk2 o kvs hdo hf F2 N2 hLD off
  have lo : (D == sysModules) = false := lo_of T F2 hLD
  have hne : @Ne Nat (L + 1) D := off _ (.head _)
  clear F1 N1 off
  refine storeX_C F2 N2 (by rfl) (.tail (Ne.symm hne) (.head (by simp))) d1 ?_ (by rfl) (by rfl)
  intro h3 oc3 F3 N3 d3
  try dsimp only at N3
  clear F2 N2
  k_steps
  dsimp only
  exact hret _ [(D, o)] _ _ _ ⟨D, o, kvs, rfl, rfl, lo, hdo, hf⟩ F3 (news_sub N3 (by simp))
theorem map_fix_ct (w : World) (b : Array UInt8) (ks : List Int) (ta : Nat) (hb : KBw.bInts b = ks) (hz : ks.length ≤ 200) :
    Ct (PySem.Challenge.rw_eg5003_01.row.prog) w (Mine.hd.heap_39 w.params) 42 5 (fun _ => True) [.bytes b ta] [("autofix", .bool true)] (fun v nw => ∃ D o kvs c, v = .ref D ∧ nw = [(D, o)] ∧ (D == sysModules) = false ∧ o.IsDictOf (PySem.intKind (PySem.Challenge.rw_eg5003_01.row.prog) w) kvs ∧ PyProof.V.FlatPairs PyData.int kvs (kdfD c) ∧ ∀ x ∈ ks, kdfHas c x = true ∧ kdfLook c x 0 = kdfLook (R.invI ks ks.length) x 0) := by
  k_fill
  refine' Ct.ofC (by k_is) (by k_is) (fun s X => by first | exact BindsTo.of_eq rfl | exact binds_K X rfl (by k_is) rfl rfl rfl) (by rfl) (by decide) rfl rfl rfl (fun _ _ k x => x) ?_
  intro p loose mean mg mb dp un gd outer A₀ base g L s Q cells B F X N Y T hpre hd hu hret
  obtain ⟨oc, hE, d1⟩ := PyProof.Rows.CellsAre.one Y
  subst hE
  clear Y
  replace d1 : oc.data = .cell none := d1
  have F := fr_pin [("alphabet", .bytes b ta), ("autofix", .bool true)] (by simp only [List.forall_mem_cons]; exact ⟨rfl, rfl, by simp⟩) F
  k_steps
  refine Stop.out ?_
  refine R.assign_rule (by rfl) ?_
  refine R.DictComp_enumB F N hb (by omega) (by rfl) (by rfl) (by decide) (by rfl) (by decide) (by rfl) (by rfl) (by decide) (by decide) (by decide) ?_
  k_steps
  refine Stop.out ?_
  rename Fr _ _ _ _ => F1
  rename News _ _ _ _ => N1
  refine R.call_enumerate_bytes ?_
  intro h' he hit hsz hk
  have hL : L < s.heap.objs.size := F1.ns.lt
  refine ⟨_, _, _, rfl, Nat.ne_of_gt (Nat.lt_succ_self _), he, hit, F1.keeps hk, fun p hp => ⟨hk _ _ (N1 p hp).1, (N1 p hp).2⟩, Nat.ne_of_lt (Nat.lt_succ_of_lt hL), Nat.ne_of_lt hL, R.new_at F1 (Nat.le_succ _), R.new_at F1 (Nat.le_refl _), fun p hp => ⟨Nat.ne_of_lt (Nat.lt_succ_of_lt (Heap.lt_size (N1 p hp).1)), Nat.ne_of_lt (Heap.lt_size (N1 p hp).1)⟩, ?_⟩
  intro D h2 tk2 o kvs hdo hf F2 N2 hLD off
  have lo : (D == sysModules) = false := lo_of T F2 hLD
  have hne : @Ne Nat (L + 1) D := off _ (.head _)
  clear F1 N1 off
  refine storeX_C F2 N2 (by rfl) (.tail (Ne.symm hne) (.head (by simp))) d1 ?_ (by rfl) (by rfl)
  intro h3 oc3 F3 N3 d3
  try dsimp only at N3
  clear F2 N2
  k_steps
  refine Stop.out ?_
  clear hk hit he
  rename Fr _ _ _ _ => F4
  rename News _ _ _ _ => N4
  rename D < _ ∧ L + 1 < _ => l1
  refine For_invVF F4 (by rfl) (by rfl) ?_
  k_steps
  refine Stop.out ?_
  rename Fr _ _ _ _ => F5
  rename News _ _ _ _ => N5
  refine name_addr N5 ?_
  intro G hG
  subst hG
  refine R.iter_invNV (vs := [.bytes #[48, 79, 111] _, .bytes #[73, 108, 49] _]) (fun i m nw => ∃ (o : Obj) (kvs : List (Int × Value)) (c : List (Int × Int)), nw.tail = [(D, o), (L + 1, oc3)] ∧ o.IsDictOf (PySem.intKind (PySem.Challenge.rw_eg5003_01.row.prog) w) kvs ∧ PyProof.V.FlatPairs PyData.int kvs (kdfD c) ∧ c.length ≤ 200 + 3 * i ∧ ∀ x ∈ ks, kdfHas c x = true ∧ kdfLook c x 0 = kdfLook (R.invI ks ks.length) x 0)
    (by rfl) (.head _) F5 N5 ⟨o, kvs, _, rfl, hdo, hf, Nat.le_trans (R.invI_len _ _) (by omega), fun x hx => ⟨(inv_has (Nat.le_refl _)).mpr (by rw [List.take_length]; exact hx), rfl⟩⟩ ?_ ?_
  · rintro i v m₁ nx h tk₁ own hi hadr hoff hmem ⟨o1, kvs1, c1, hnx, hdo1, hf1, hlen1, hall1⟩ F₁ N₁
    obtain ⟨q, rfl⟩ : ∃ q, nx = q :: [(D, o1), (L + 1, oc3)] := by
      cases nx with
      | nil => cases hadr
      | cons a r => exact ⟨a, by rw [show r = _ from hnx]⟩
    have hq := mem_first hmem l1.1 l1.2
    obtain ⟨gb, tg, hgl, rfl⟩ : ∃ gb tg, gb.size = 3 ∧ v = .bytes gb tg := by
      match i, hi with
      | 0, hi => exact ⟨_, _, rfl, (Option.some.inj hi).symm⟩
      | 1, hi => exact ⟨_, _, rfl, (Option.some.inj hi).symm⟩
      | n + 2, hi => cases hi
    subst hq
    have F₂ := fr_turn [] (by simp) F₁
    clear F5 N5 F₁
    k_steps
    refine Stop.out ?_
    rename Fr _ _ _ _ => F6
    rename News _ _ _ _ => N6
    refine R.Assign_LC_TB F6 rfl (by rfl) (by with_unfolding_all rfl) (by with_unfolding_all rfl) (by decide) (by rfl) (by decide) (by rfl) (by rfl) (by rfl) ?_
    refine nameX_L F6 (v := .bytes gb tg) (by rfl) ?_
    refine ⟨gb, tg, _, rfl, F6, N6, by rw [hgl]; decide, fun g' => ?_⟩
    refine kci_rest (ks := KBw.bInts gb) (fun l k => if kdfHas c1 k = true then l ++ [k] else l) (KBw.ints_length gb) (fun i v _ hv => by
      obtain ⟨c, u, hc, rfl⟩ := hv
      exact ⟨_, u, KBw.ints_get hc, rfl⟩) ?_ ?_ ?_
    · intro k t I oI C oC D' m₂ ys l h tk E' hk hy hC hx F N off ne mk
      k_steps
      · exact LCg.CompEnd.intro F N _ (fun p hp => hp) off trivial (by rw [if_pos (by assumption)]; exact kci_el rfl rfl rfl)
      · exact LCg.CompEnd.intro F N _ (fun p hp => hp) off trivial (by rw [if_neg (by simp_all)]; exact kci_no rfl rfl)
    · unfold KPfDone
      intro ys hys hlen P h tk F N off
      rw [foldl_filter] at hys
      by_cases h1 : ((KBw.bInts gb).filter fun k => kdfHas c1 k).length = 1
      · obtain ⟨pv, hpv⟩ := List.length_eq_one_iff.mp h1
        rw [hpv] at hys
        obtain ⟨tp, rfl⟩ : ∃ t, ys = [.int pv t] := by
          cases hys with
          | cons _ t h => cases h; exact ⟨t, rfl⟩
        k_steps
        refine Stop.out ?_
        rename Fr _ _ _ _ => F7
        rename News _ _ _ _ => N7
        refine For_invVF F7 (by rfl) (by rfl) ?_
        k_steps
        refine Stop.out ?_
        rename Fr _ _ _ _ => F7
        rename News _ _ _ _ => N7
        have offD : ∀ p ∈ own, p.1 ≠ D := fun p hp => hoff p hp D (by simp)
        have hP : ∀ p ∈ own, p.1 ≠ P := fun p hp => Mine.LCg.off1_mem off p (List.mem_append_right _ hp)
        have hPD : @Ne Nat D P := Mine.LCg.off1_mem off (D, o1) (by simp)
        have hcp : kdfHas c1 pv = true := by
          have : pv ∈ (KBw.bInts gb).filter fun k => kdfHas c1 k := by rw [hpv]; exact .head _
          exact (List.mem_filter.mp this).2
        have honly : ∀ x ∈ KBw.bInts gb, kdfHas c1 x = true → x = pv := fun x hx hc => by
          have : x ∈ (KBw.bInts gb).filter fun k => kdfHas c1 k := List.mem_filter.mpr ⟨hx, hc⟩
          rw [hpv] at this
          exact List.mem_singleton.mp this
        refine KBmo.iter_bytesN (fun j m nw => ∃ (o : Obj) (kvs : List (Int × Value)) (c : List (Int × Int)), nw = (P, LCg.lst [.int pv tp]) :: (G, _) :: (D, o) :: (L + 1, oc3) :: own ∧ o.IsDictOf (PySem.intKind (PySem.Challenge.rw_eg5003_01.row.prog) w) kvs ∧ PyProof.V.FlatPairs PyData.int kvs (kdfD c) ∧ c.length ≤ 200 + 3 * i + j ∧ kdfHas c pv = true ∧ kdfLook c pv 0 = kdfLook c1 pv 0 ∧ (∀ x ∈ ks, kdfHas c x = true ∧ kdfLook c x 0 = kdfLook (R.invI ks ks.length) x 0) ∧ m "pivots" = some (.ref P))
          (ks := KBw.bInts gb) rfl (by rfl) F7 N7 ⟨o1, kvs1, c1, rfl, hdo1, hf1, hlen1, hcp, rfl, hall1, rfl⟩ ?_ ?_
        · rintro j k t m₂ nx2 h4 tk4 own2 hk hk0 hk1 hoff2 ⟨o2, kvs2, c2, rfl, hdo2, hf2, hlen2, hcp2, hlp2, hall2, e2⟩ F8 N8
          have F9 := fr_turn [("pivots", .ref P)] (by simp [e2]) F8
          clear F7 N7 F8
          k_steps
          have hi2 : i < 2 := (List.getElem?_eq_some_iff.mp hi).1
          have hj3 : j < 3 := by
            have := (List.getElem?_eq_some_iff.mp hk).1
            rw [KBw.ints_length, hgl] at this
            exact this
          refine kdf_setItem F9 N8 (.tail (Ne.symm hPD) (.tail (Nat.ne_of_gt l1.1) (.head (r := (L + 1, oc3) :: (own ++ own2)) (fun p hp => by
            rcases List.mem_cons.mp hp with rfl | hp
            · exact hne
            · rcases List.mem_append.mp hp with hp | hp
              · exact offD p hp
              · exact hoff2 p hp D (by simp))))) hdo2 hf2 (by omega) ?_
          intro h5 o5 kvs5 F5 N5 hdo5 hf5
          k_steps
          have hkg : k ∈ KBw.bInts gb := List.mem_of_getElem? hk
          refine InvEndN.intro (nx := (P, _) :: (G, _) :: (D, o5) :: (L + 1, oc3) :: own) F5 N5 ⟨o5, kvs5, _, rfl, hdo5, hf5, Nat.le_trans (kdfPut_len _ _ _) (by omega), ?_, ?_, fun x hx => ⟨?_, ?_⟩, rfl⟩ rfl ?_ ?_
          · rw [has_put, hcp2, Bool.or_true]
          · rw [look_put, ← hlp2]
            split
            · rfl
            · rfl
          · rw [has_put, (hall2 x hx).1, Bool.or_true]
          · rw [look_put]
            split
            · rename_i e
              have : x = pv := honly x (e ▸ hkg) (hall1 x hx).1
              rw [← (hall2 x hx).2, this]
              rfl
            · exact (hall2 x hx).2
          · intro p hp
            exact List.mem_append_left own2 hp
          · intro p hp
            exact .tail _ (.tail _ (.tail _ (.tail _ (List.mem_append_right own hp))))
        · rintro m₂ nx2 h4 tk4 ⟨o2, kvs2, c2, rfl, hdo2, hf2, hlen2, hcp2, hlp2, hall2, e2⟩ F8 N8
          k_steps
          refine InvEndN.intro (nx := (G, _) :: [(D, o2), (L + 1, oc3)]) F8 N8 ⟨.head _, o2, kvs2, c2, rfl, hdo2, hf2, ?_, hall2⟩ rfl ?_ ?_
          · rw [KBw.ints_length, hgl] at hlen2
            omega
          · intro p hp
            exact .tail _ (List.mem_append_left own hp)
          · intro p hp
            exact .tail _ (.tail _ (.tail _ (.tail _ hp)))
      · have hsz : ys.toArray.size ≤ 3 := by
          rw [List.size_toArray]
          omega
        have hn1 : ys.length ≠ 1 := by
          rw [hys.length]
          exact h1
        k_steps
        · refine absurd ?_ hn1
          rename ((ys.toArray.size : Nat) : Int) = 1 => hy1
          rw [List.size_toArray] at hy1
          omega
        · refine InvEndN.intro (nx := (G, _) :: [(D, o1), (L + 1, oc3)]) F N ⟨.head _, o1, kvs1, c1, rfl, hdo1, hf1, by omega, hall1⟩ rfl ?_ ?_
          · intro p hp
            exact .tail _ (List.mem_append_left own hp)
          · intro p hp
            exact .tail _ (List.mem_append_right _ hp)
    · intro l k
      dsimp only
      split
      · simp
      · simp
  · rintro m₁ nx h tk₁ hmem ⟨o1, kvs1, c1, hnx, hdo1, hf1, hlen1, hall1⟩ F₁ N₁
    obtain ⟨q, rfl⟩ : ∃ q, nx = q :: [(D, o1), (L + 1, oc3)] := by
      cases nx with
      | nil => cases hmem
      | cons a r => exact ⟨a, by rw [show r = _ from hnx]⟩
    clear F5 N5
    k_steps
    dsimp only
    exact hret _ [(D, o1)] _ _ _ ⟨D, o1, kvs1, c1, rfl, rfl, lo, hdo1, hf1, hall1⟩ F₁ (news_sub N₁ (by simp))
end Mine
-- D1
namespace Mine
local macro_rules | `(tactic| walk_at "none") => `(tactic| fail)
local macro_rules | `(tactic| walk_at "none") => `(tactic| fail)
local macro_rules | `(tactic| walk_at "none") => `(tactic| fail)
local macro_rules | `(tactic| walk_at "none") => `(tactic| fail)
local macro_rules | `(tactic| walk_at "none") => `(tactic| fail)
local macro_rules | `(tactic| walk_at "none") => `(tactic| fail)
local macro_rules | `(tactic| walk_at "none") => `(tactic| fail)
local macro_rules | `(tactic| walk_at "none") => `(tactic| fail)
theorem fresh_walk_D1 : True := by
 w_top off
 trivial
local macro_rules | `(tactic| walk1) => `(tactic| ((with_reducible show wpAny _ _ (exec (Stmt.While _ _ _ _) _) _ _ _); refine Stop.into ?_))
local macro_rules | `(tactic| walk1) => `(tactic| ((with_reducible show wpAny _ _ (exec (Stmt.For _ _ _ _ _) _) _ _ _); refine Stop.into ?_))
local macro_rules | `(tactic| walk1) => `(tactic| ((with_reducible show wpAny _ _ (pyIter _) _ _ _); refine Stop.into ?_))
local macro_rules | `(tactic| walk1) => `(tactic| ((with_reducible show wpAny _ _ (call (Value.ref _) _ _) _ _ _); refine Stop.into ?_))
local macro_rules | `(tactic| walk_at "getMethod bytes") => `(tactic| (with_reducible refine R.lstrip_method ?_))
local macro_rules | `(tactic| walk_at "getMethod bytes") => `(tactic| (with_reducible refine R.rstrip_method ?_))
local macro_rules | `(tactic| walk_at "getMethod str") => `(tactic| (with_reducible refine R.encode_method ?_))
local macro_rules | `(tactic| walk_at "call builtin:bytes.lstrip") => `(tactic| ((with_reducible show wpAny _ _ (call (Value.builtin "bytes.lstrip") [Value.bytes _ _, Value.bytes _ _]) _ _ _); (refine R.lstrip_call (by kba_ints2) (by kba_ints2) (by kba_size) ?_); intro _ _ _ hlst))
local macro_rules | `(tactic| walk_at "call builtin:bytes.rstrip") => `(tactic| ((with_reducible show wpAny _ _ (call (Value.builtin "bytes.rstrip") [Value.bytes _ _]) _ _ _); (refine R.rstrip_call (by kba_ints2) (by kba_size) ?_); intro _ _ _ hrst))
local macro_rules | `(tactic| walk_at "callWith ref") => `(tactic| (k_here; kfb_any; k_dflt (refine' R.fb_callWith ?hN ?hM ?ha ?_; (case hN => k_asm); (case hM => k_mem); (case ha => exact rfl); k_whole)))
local macro_rules | `(tactic| walk1) => `(tactic| ((with_reducible show wpAny _ _ (binaryOp Operator.Add (Value.bytes _ _) (Value.bytes _ _)) _ _ _); first | ((refine KBa.add_K (by kba_ints2) (by kba_ints2) (by ((try simp only [List.length_replicate, List.length_append, List.length_map, List.length_take, List.length_drop, List.length_cons, List.length_nil]); omega)) ?_); intro _ _ kbaApp) | (refine Stop.into ?_)))
local macro_rules | `(tactic| walk1) => `(tactic| ((with_reducible show wpAny _ _ (exec (Stmt.Assign _ (PySem.Expr.DictComp _ _ _ _ _) _) _) _ _ _); refine Stop.into ?_))
local macro_rules | `(tactic| walk1) => `(tactic| ((with_reducible show wpAny _ _ (call (Value.type "enumerate") _ _) _ _ _); refine Stop.into ?_))
def rankNum (ss tks : List Int) : Int := digNum (tks.map fun x => kdfLook (R.invI ss ss.length) x 0) (ss.length : Int)
theorem dec_b_ct (w : World) (b sg : Array UInt8) (ks ss : List Int) (ta tb : Nat) (hb : KBw.bInts b = ks) (hs : KBw.bInts sg = ss) (h2 : 2 ≤ ss.length) (h3 : ss.length ≤ 200) (h4 : ks.length ≤ 5000) (h32 : (32 : Int) ∈ ss) (hall : ∀ k ∈ ks, k ∈ ss) :
    Ct (PySem.Challenge.rw_eg5003_01.row.prog) w (Mine.hd.heap_39 w.params) 51 12 (fun _ => True) [.bytes b ta, .bytes sg tb] [] (fun v nw => nw = [] ∧ ∃ t, v = .int (rankNum ss ks) t) := by
  k_fill
  refine' Ct.of (by k_is) (by k_is) (fun s X => by exact kp_binds X (fun _ => rfl)) (locs rfl) rfl rfl rfl (by decide) (fun _ _ k x => x) ?_
  intro p loose mean mg mb dp un gd outer A₀ base g L s Q B F X N T hpre hd hu hret
  k_steps
  refine R.notin_bytes (by rfl) ?_
  intro h1 tk1 hk1
  rw [R.contains_ints hs, decide_eq_true (show ((32 : UInt8).toNat : Int) ∈ ss from h32)]
  have F1 := F.keeps hk1
  have N1 : News g L h1 [] := News.nil
  clear N F
  k_steps
  refine Stop.out ?_
  refine (scrub_b_ct w b ta).use B F1 X N1 T rfl trivial (by omega) (by omega) ?_
  rintro v nw h' tk' ⟨rfl, rfl⟩ k1 fr1 F2 N2
  clear F1 N1
  k_steps
  refine Stop.out ?_
  rename Fr _ _ _ _ => F2
  rename News _ _ _ _ => N2
  refine' (map_ct w sg ss tb hs (by omega)).use B F2 X N2 T rfl trivial ?hd ?hu ?_
  case hd => omega
  case hu => omega
  rintro v nw h' tk' ⟨D, o, kvs, rfl, rfl, lo, hdo, hf⟩ k2 fr2 F3 N3
  clear F2 N2
  k_steps
  refine Stop.out ?_
  rename Fr _ _ _ _ => F4
  rename News _ _ _ _ => N4
  refine wpAny_mono (E := fun _ _ => False) ?_ (fun _ _ h => h) (fun _ _ h => h.elim)
  refine For_invVF F4 (by rfl) (by rfl) ?_
  k_steps
  refine Stop.out ?_
  rename Fr _ _ _ _ => F4
  rename News _ _ _ _ => N4
  refine KBmo.iter_bytesN (fun i m nw => nw = [(D, o)] ∧ ∃ t t2, m "decimal" = some (.int (rankNum ss (ks.take i)) t) ∧ m "map" = some (.ref D) ∧ m "base" = some (.int (ss.length : Int) t2)) hb (by rfl) F4 N4 ⟨rfl, _, _, rfl, rfl, rfl⟩ ?_ ?_
  · rintro i k t m₂ nx2 h4 tk4 own2 hk hk0 hk1 hoff2 ⟨rfl, t3, t4, e1, e2, e3⟩ F8 N8
    have F9 := fr_turn [("decimal", .int (rankNum ss (ks.take i)) t3), ("map", .ref D), ("base", .int (ss.length : Int) t4)] (by simp [e1, e2, e3]) F8
    clear F4 N4 F8
    have hmem : k ∈ ks := List.mem_of_getElem? hk
    have hhas : kdfHas (R.invI ss ss.length) k = true := (inv_has (Nat.le_refl _)).mpr (by rw [List.take_length]; exact hall k hmem)
    k_steps
    rename Fr _ _ _ _ => F5
    rename News _ _ _ _ => N5
    have hrn : rankNum ss (ks.take (i + 1)) = rankNum ss (ks.take i) * (ss.length : Int) + kdfLook (R.invI ss ss.length) k 0 := by
      unfold rankNum digNum
      rw [List.take_add_one, hk, Option.toList_some, List.map_append, List.foldl_append]
      rfl
    rw [← hrn] at F5
    exact InvEndN.intro F5 N5 ⟨rfl, _, _, rfl, rfl, rfl⟩ rfl (fun p hp => List.mem_append_left _ hp) (fun p hp => List.mem_append_right _ hp)
  · rintro m₂ nx2 h4 tk4 ⟨rfl, t3, t4, e1, e2, e3⟩ F8 N8
    have F9 := fr_pin [("decimal", .int (rankNum ss (ks.take ks.length)) t3)] (by simp [e1]) F8
    clear F4 N4 F8
    k_steps
    dsimp only
    refine hret _ [] _ _ _ ⟨rfl, t3, ?_⟩ F9 News.nil
    rw [List.take_length]
theorem dec_s_ct (w : World) (x : PySem.Str) (sg : Array UInt8) (ks ss : List Int) (ta tb : Nat) (hx : ∀ c ∈ x.cps, c < 128) (hxz : x.length ≤ 1000) (hb : KBw.bInts (x.cps.map fun c => c.toUInt8) = ks) (hs : KBw.bInts sg = ss) (h2 : 2 ≤ ss.length) (h3 : ss.length ≤ 200) (h4 : ks.length ≤ 5000) (h32 : (32 : Int) ∈ ss) (hall : ∀ k ∈ ks, k ∈ ss) :
    Ct (PySem.Challenge.rw_eg5003_01.row.prog) w (Mine.hd.heap_39 w.params) 51 12 (fun _ => True) [.str x ta, .bytes sg tb] [] (fun v nw => nw = [] ∧ ∃ t, v = .int (rankNum ss ks) t) := by
  k_fill
  refine' Ct.of (by k_is) (by k_is) (fun s X => by exact kp_binds X (fun _ => rfl)) (locs rfl) rfl rfl rfl (by decide) (fun _ _ k x => x) ?_
  intro p loose mean mg mb dp un gd outer A₀ base g L s Q B F X N T hpre hd hu hret
  k_steps
  refine R.notin_bytes (by rfl) ?_
  intro h1 tk1 hk1
  rw [R.contains_ints hs, decide_eq_true (show ((32 : UInt8).toNat : Int) ∈ ss from h32)]
  have F1 := F.keeps hk1
  have N1 : News g L h1 [] := News.nil
  clear N F
  k_steps
  refine Stop.out ?_
  refine (scrub_s_ct w x ta hx hxz).use B F1 X N1 T rfl trivial (by omega) (by omega) ?_
  rintro v nw h' tk' ⟨rfl, t9, rfl⟩ k1 fr1 F2 N2
  clear F1 N1
  k_steps
  refine Stop.out ?_
  rename Fr _ _ _ _ => F2
  rename News _ _ _ _ => N2
  refine' (map_ct w sg ss tb hs (by omega)).use B F2 X N2 T rfl trivial ?hd ?hu ?_
  case hd => omega
  case hu => omega
  rintro v nw h' tk' ⟨D, o, kvs, rfl, rfl, lo, hdo, hf⟩ k2 fr2 F3 N3
  clear F2 N2
  k_steps
  refine Stop.out ?_
  rename Fr _ _ _ _ => F4
  rename News _ _ _ _ => N4
  refine wpAny_mono (E := fun _ _ => False) ?_ (fun _ _ h => h) (fun _ _ h => h.elim)
  refine For_invVF F4 (by rfl) (by rfl) ?_
  k_steps
  refine Stop.out ?_
  rename Fr _ _ _ _ => F4
  rename News _ _ _ _ => N4
  refine KBmo.iter_bytesN (fun i m nw => nw = [(D, o)] ∧ ∃ t t2, m "decimal" = some (.int (rankNum ss (ks.take i)) t) ∧ m "map" = some (.ref D) ∧ m "base" = some (.int (ss.length : Int) t2)) hb (by rfl) F4 N4 ⟨rfl, _, _, rfl, rfl, rfl⟩ ?_ ?_
  · rintro i k t m₂ nx2 h4 tk4 own2 hk hk0 hk1 hoff2 ⟨rfl, t3, t4, e1, e2, e3⟩ F8 N8
    have F9 := fr_turn [("decimal", .int (rankNum ss (ks.take i)) t3), ("map", .ref D), ("base", .int (ss.length : Int) t4)] (by simp [e1, e2, e3]) F8
    clear F4 N4 F8
    have hmem : k ∈ ks := List.mem_of_getElem? hk
    have hhas : kdfHas (R.invI ss ss.length) k = true := (inv_has (Nat.le_refl _)).mpr (by rw [List.take_length]; exact hall k hmem)
    k_steps
    rename Fr _ _ _ _ => F5
    rename News _ _ _ _ => N5
    have hrn : rankNum ss (ks.take (i + 1)) = rankNum ss (ks.take i) * (ss.length : Int) + kdfLook (R.invI ss ss.length) k 0 := by
      unfold rankNum digNum
      rw [List.take_add_one, hk, Option.toList_some, List.map_append, List.foldl_append]
      rfl
    rw [← hrn] at F5
    exact InvEndN.intro F5 N5 ⟨rfl, _, _, rfl, rfl, rfl⟩ rfl (fun p hp => List.mem_append_left _ hp) (fun p hp => List.mem_append_right _ hp)
  · rintro m₂ nx2 h4 tk4 ⟨rfl, t3, t4, e1, e2, e3⟩ F8 N8
    have F9 := fr_pin [("decimal", .int (rankNum ss (ks.take ks.length)) t3)] (by simp [e1]) F8
    clear F4 N4 F8
    k_steps
    dsimp only
    refine hret _ [] _ _ _ ⟨rfl, t3, ?_⟩ F9 News.nil
    rw [List.take_length]
theorem dec_fix_ct (w : World) (b sg : Array UInt8) (ks ss : List Int) (ta tb : Nat) (hb : KBw.bInts b = ks) (hs : KBw.bInts sg = ss) (h2 : 2 ≤ ss.length) (h3 : ss.length ≤ 200) (h4 : ks.length ≤ 5000) (h32 : (32 : Int) ∈ ss) (hall : ∀ k ∈ ks, k ∈ ss) :
    Ct (PySem.Challenge.rw_eg5003_01.row.prog) w (Mine.hd.heap_39 w.params) 51 12 (fun _ => True) [.bytes b ta, .bytes sg tb] [("autofix", .bool true)] (fun v nw => nw = [] ∧ ∃ t, v = .int (rankNum ss ks) t) := by
  k_fill
  refine' Ct.of (by k_is) (by k_is) (fun s X => by exact kp_binds X (fun _ => rfl)) (locs rfl) rfl rfl rfl (by decide) (fun _ _ k x => x) ?_
  intro p loose mean mg mb dp un gd outer A₀ base g L s Q B F X N T hpre hd hu hret
  k_steps
  refine R.notin_bytes (by rfl) ?_
  intro h1 tk1 hk1
  rw [R.contains_ints hs, decide_eq_true (show ((32 : UInt8).toNat : Int) ∈ ss from h32)]
  have F1 := F.keeps hk1
  have N1 : News g L h1 [] := News.nil
  clear N F
  k_steps
  refine Stop.out ?_
  refine (scrub_b_ct w b ta).use B F1 X N1 T rfl trivial (by omega) (by omega) ?_
  rintro v nw h' tk' ⟨rfl, rfl⟩ k1 fr1 F2 N2
  clear F1 N1
  k_steps
  refine Stop.out ?_
  rename Fr _ _ _ _ => F2
  rename News _ _ _ _ => N2
  refine' (map_fix_ct w sg ss tb hs (by omega)).use B F2 X N2 T rfl trivial ?hd ?hu ?_
  case hd => omega
  case hu => omega
  rintro v nw h' tk' ⟨D, o, kvs, c, rfl, rfl, lo, hdo, hf, hcall⟩ k2 fr2 F3 N3
  clear F2 N2
  k_steps
  refine Stop.out ?_
  rename Fr _ _ _ _ => F4
  rename News _ _ _ _ => N4
  refine wpAny_mono (E := fun _ _ => False) ?_ (fun _ _ h => h) (fun _ _ h => h.elim)
  refine For_invVF F4 (by rfl) (by rfl) ?_
  k_steps
  refine Stop.out ?_
  rename Fr _ _ _ _ => F4
  rename News _ _ _ _ => N4
  refine KBmo.iter_bytesN (fun i m nw => nw = [(D, o)] ∧ ∃ t t2, m "decimal" = some (.int (rankNum ss (ks.take i)) t) ∧ m "map" = some (.ref D) ∧ m "base" = some (.int (ss.length : Int) t2)) hb (by rfl) F4 N4 ⟨rfl, _, _, rfl, rfl, rfl⟩ ?_ ?_
  · rintro i k t m₂ nx2 h4 tk4 own2 hk hk0 hk1 hoff2 ⟨rfl, t3, t4, e1, e2, e3⟩ F8 N8
    have F9 := fr_turn [("decimal", .int (rankNum ss (ks.take i)) t3), ("map", .ref D), ("base", .int (ss.length : Int) t4)] (by simp [e1, e2, e3]) F8
    clear F4 N4 F8
    have hmem : k ∈ ks := List.mem_of_getElem? hk
    have hhas : kdfHas c k = true := (hcall k (hall k hmem)).1
    k_steps
    rename Fr _ _ _ _ => F5
    rename News _ _ _ _ => N5
    have hrn : rankNum ss (ks.take (i + 1)) = rankNum ss (ks.take i) * (ss.length : Int) + kdfLook (R.invI ss ss.length) k 0 := by
      unfold rankNum digNum
      rw [List.take_add_one, hk, Option.toList_some, List.map_append, List.foldl_append]
      rfl
    rw [(hcall k (hall k hmem)).2, ← hrn] at F5
    exact InvEndN.intro F5 N5 ⟨rfl, _, _, rfl, rfl, rfl⟩ rfl (fun p hp => List.mem_append_left _ hp) (fun p hp => List.mem_append_right _ hp)
  · rintro m₂ nx2 h4 tk4 ⟨rfl, t3, t4, e1, e2, e3⟩ F8 N8
    have F9 := fr_pin [("decimal", .int (rankNum ss (ks.take ks.length)) t3)] (by simp [e1]) F8
    clear F4 N4 F8
    k_steps
    dsimp only
    refine hret _ [] _ _ _ ⟨rfl, t3, ?_⟩ F9 News.nil
    rw [List.take_length]
theorem dec_kw_ct (w : World) (b sg : Array UInt8) (ks ss : List Int) (ta tb : Nat) (hb : KBw.bInts b = ks) (hs : KBw.bInts sg = ss) (h2 : 2 ≤ ss.length) (h3 : ss.length ≤ 200) (h4 : ks.length ≤ 5000) (h32 : (32 : Int) ∈ ss) (hall : ∀ k ∈ ks, k ∈ ss) :
    Ct (PySem.Challenge.rw_eg5003_01.row.prog) w (Mine.hd.heap_39 w.params) 51 12 (fun _ => True) [.bytes b ta] [("alphabet", .bytes sg tb), ("autofix", .bool false)] (fun v nw => nw = [] ∧ ∃ t, v = .int (rankNum ss ks) t) := by
  k_fill
  refine' Ct.of (by k_is) (by k_is) (fun s X => by exact kp_binds X (fun _ => rfl)) (locs rfl) rfl rfl rfl (by decide) (fun _ _ k x => x) ?_
  intro p loose mean mg mb dp un gd outer A₀ base g L s Q B F X N T hpre hd hu hret
  k_steps
  refine R.notin_bytes (by rfl) ?_
  intro h1 tk1 hk1
  rw [R.contains_ints hs, decide_eq_true (show ((32 : UInt8).toNat : Int) ∈ ss from h32)]
  have F1 := F.keeps hk1
  have N1 : News g L h1 [] := News.nil
  clear N F
  k_steps
  refine Stop.out ?_
  refine (scrub_b_ct w b ta).use B F1 X N1 T rfl trivial (by omega) (by omega) ?_
  rintro v nw h' tk' ⟨rfl, rfl⟩ k1 fr1 F2 N2
  clear F1 N1
  k_steps
  refine Stop.out ?_
  rename Fr _ _ _ _ => F2
  rename News _ _ _ _ => N2
  refine' (map_ct w sg ss tb hs (by omega)).use B F2 X N2 T rfl trivial ?hd ?hu ?_
  case hd => omega
  case hu => omega
  rintro v nw h' tk' ⟨D, o, kvs, rfl, rfl, lo, hdo, hf⟩ k2 fr2 F3 N3
  clear F2 N2
  k_steps
  refine Stop.out ?_
  rename Fr _ _ _ _ => F4
  rename News _ _ _ _ => N4
  refine wpAny_mono (E := fun _ _ => False) ?_ (fun _ _ h => h) (fun _ _ h => h.elim)
  refine For_invVF F4 (by rfl) (by rfl) ?_
  k_steps
  refine Stop.out ?_
  rename Fr _ _ _ _ => F4
  rename News _ _ _ _ => N4
  refine KBmo.iter_bytesN (fun i m nw => nw = [(D, o)] ∧ ∃ t t2, m "decimal" = some (.int (rankNum ss (ks.take i)) t) ∧ m "map" = some (.ref D) ∧ m "base" = some (.int (ss.length : Int) t2)) hb (by rfl) F4 N4 ⟨rfl, _, _, rfl, rfl, rfl⟩ ?_ ?_
  · rintro i k t m₂ nx2 h4 tk4 own2 hk hk0 hk1 hoff2 ⟨rfl, t3, t4, e1, e2, e3⟩ F8 N8
    have F9 := fr_turn [("decimal", .int (rankNum ss (ks.take i)) t3), ("map", .ref D), ("base", .int (ss.length : Int) t4)] (by simp [e1, e2, e3]) F8
    clear F4 N4 F8
    have hmem : k ∈ ks := List.mem_of_getElem? hk
    have hhas : kdfHas (R.invI ss ss.length) k = true := (inv_has (Nat.le_refl _)).mpr (by rw [List.take_length]; exact hall k hmem)
    k_steps
    rename Fr _ _ _ _ => F5
    rename News _ _ _ _ => N5
    have hrn : rankNum ss (ks.take (i + 1)) = rankNum ss (ks.take i) * (ss.length : Int) + kdfLook (R.invI ss ss.length) k 0 := by
      unfold rankNum digNum
      rw [List.take_add_one, hk, Option.toList_some, List.map_append, List.foldl_append]
      rfl
    rw [← hrn] at F5
    exact InvEndN.intro F5 N5 ⟨rfl, _, _, rfl, rfl, rfl⟩ rfl (fun p hp => List.mem_append_left _ hp) (fun p hp => List.mem_append_right _ hp)
  · rintro m₂ nx2 h4 tk4 ⟨rfl, t3, t4, e1, e2, e3⟩ F8 N8
    have F9 := fr_pin [("decimal", .int (rankNum ss (ks.take ks.length)) t3)] (by simp [e1]) F8
    clear F4 N4 F8
    k_steps
    dsimp only
    refine hret _ [] _ _ _ ⟨rfl, t3, ?_⟩ F9 News.nil
    rw [List.take_length]
end Mine
-- E1
namespace Mine
local macro_rules | `(tactic| walk_at "none") => `(tactic| fail)
local macro_rules | `(tactic| walk_at "none") => `(tactic| fail)
local macro_rules | `(tactic| walk_at "none") => `(tactic| fail)
local macro_rules | `(tactic| walk_at "none") => `(tactic| fail)
local macro_rules | `(tactic| walk_at "none") => `(tactic| fail)
local macro_rules | `(tactic| walk_at "none") => `(tactic| fail)
local macro_rules | `(tactic| walk_at "none") => `(tactic| fail)
local macro_rules | `(tactic| walk_at "none") => `(tactic| fail)
local macro_rules | `(tactic| walk_at "none") => `(tactic| fail)
theorem fresh_walk_E1 : True := by
 w_top off
 trivial
local macro_rules | `(tactic| walk1) => `(tactic| ((with_reducible show wpAny _ _ (exec (Stmt.While _ _ _ _) _) _ _ _); refine Stop.into ?_))
local macro_rules | `(tactic| walk1) => `(tactic| ((with_reducible show wpAny _ _ (exec (Stmt.For _ _ _ _ _) _) _ _ _); refine Stop.into ?_))
local macro_rules | `(tactic| walk1) => `(tactic| ((with_reducible show wpAny _ _ (pyIter _) _ _ _); refine Stop.into ?_))
local macro_rules | `(tactic| walk1) => `(tactic| ((with_reducible show wpAny _ _ (call (Value.ref _) _ _) _ _ _); refine Stop.into ?_))
local macro_rules | `(tactic| walk_at "getMethod bytes") => `(tactic| (with_reducible refine R.lstrip_method ?_))
local macro_rules | `(tactic| walk_at "getMethod bytes") => `(tactic| (with_reducible refine R.rstrip_method ?_))
local macro_rules | `(tactic| walk_at "getMethod str") => `(tactic| (with_reducible refine R.encode_method ?_))
local macro_rules | `(tactic| walk_at "call builtin:bytes.lstrip") => `(tactic| ((with_reducible show wpAny _ _ (call (Value.builtin "bytes.lstrip") [Value.bytes _ _, Value.bytes _ _]) _ _ _); (refine R.lstrip_call (by kba_ints2) (by kba_ints2) (by kba_size) ?_); intro _ _ _ hlst))
local macro_rules | `(tactic| walk_at "call builtin:bytes.rstrip") => `(tactic| ((with_reducible show wpAny _ _ (call (Value.builtin "bytes.rstrip") [Value.bytes _ _]) _ _ _); (refine R.rstrip_call (by kba_ints2) (by kba_size) ?_); intro _ _ _ hrst))
local macro_rules | `(tactic| walk_at "callWith ref") => `(tactic| (k_here; kfb_any; k_dflt (refine' R.fb_callWith ?hN ?hM ?ha ?_; (case hN => k_asm); (case hM => k_mem); (case ha => exact rfl); k_whole)))
local macro_rules | `(tactic| walk1) => `(tactic| ((with_reducible show wpAny _ _ (binaryOp Operator.Add (Value.bytes _ _) (Value.bytes _ _)) _ _ _); first | ((refine KBa.add_K (by kba_ints2) (by kba_ints2) (by ((try simp only [List.length_replicate, List.length_append, List.length_map, List.length_take, List.length_drop, List.length_cons, List.length_nil]); omega)) ?_); intro _ _ kbaApp) | (refine Stop.into ?_)))
local macro_rules | `(tactic| walk1) => `(tactic| ((with_reducible show wpAny _ _ (exec (Stmt.Assign _ (PySem.Expr.DictComp _ _ _ _ _) _) _) _ _ _); refine Stop.into ?_))
local macro_rules | `(tactic| walk1) => `(tactic| ((with_reducible show wpAny _ _ (call (Value.type "enumerate") _ _) _ _ _); refine Stop.into ?_))
def lead (c : Int) (ks : List Int) : Nat := (ks.takeWhile fun x => decide (x = c)).length
theorem lead_le (c : Int) (ks : List Int) : lead c ks ≤ ks.length := (List.takeWhile_sublist _).length_le
theorem drop_lead (c : Int) : ∀ (ks : List Int), ks.dropWhile (fun x => decide (x ∈ [c])) = ks.drop (lead c ks)
  | [] => rfl
  | k :: r => by
    by_cases h : k = c
    · subst h
      have h1 : lead k (k :: r) = lead k r + 1 := by simp [lead]
      rw [List.dropWhile_cons_of_pos (by simp), h1, List.drop_succ_cons, drop_lead k r]
    · have h1 : lead c (k :: r) = 0 := by simp [lead, h]
      rw [List.dropWhile_cons_of_neg (by simp [h]), h1, List.drop_zero]
theorem inv_nonneg (ss : List Int) (x : Int) : ∀ n, 0 ≤ kdfLook (R.invI ss n) x 0
  | 0 => Int.le_refl _
  | n + 1 => by
    show 0 ≤ kdfLook (kdfPut (R.invI ss n) (ss.getD n 0) (n : Int)) x 0
    rw [look_put]
    split
    · omega
    · exact inv_nonneg ss x n
theorem rankNum_nonneg {ss ks : List Int} (_ : ∀ k ∈ ks, k ∈ ss) : 0 ≤ rankNum ss ks := digNum_nonneg (by omega) fun k hk => by
  obtain ⟨x, _, rfl⟩ := List.mem_map.mp hk
  exact inv_nonneg ss x _
theorem rep_ints (n : Nat) : KBw.bInts (List.replicate n [(0 : UInt8)]).flatten.toArray = List.replicate n 0 := by
  unfold KBw.bInts
  induction n with
  | zero => rfl
  | succ n ih =>
    simp
theorem b58_b_ct (w : World) (b sg : Array UInt8) (ks ss : List Int) (ta tb : Nat) (hb : KBw.bInts b = ks) (hs : KBw.bInts sg = ss) (h2 : 2 ≤ ss.length) (h3 : ss.length ≤ 200) (h4 : ks.length ≤ 1000) (h32 : (32 : Int) ∈ ss) (hall : ∀ k ∈ ks, k ∈ ss) (hend : (ks.reverse.dropWhile R.spaceI).reverse = ks)
    (hlen : (ledI 256 (rankNum ss (ks.drop (lead (ss.getD 0 0) ks)))).length ≤ 5000) :
    Ct (PySem.Challenge.rw_eg5003_01.row.prog) w (Mine.hd.heap_39 w.params) 60 20 (fun _ => True) [.bytes b ta, .bytes sg tb] [] (fun v nw => nw = [] ∧ ∃ r t, v = .bytes r t ∧ KBw.bInts r = List.replicate (lead (ss.getD 0 0) ks) 0 ++ (ledI 256 (rankNum ss (ks.drop (lead (ss.getD 0 0) ks)))).reverse) := by
  k_fill
  refine' Ct.of (by k_is) (by k_is) (fun s X => by exact kp_binds X (fun _ => rfl)) (locs rfl) rfl rfl rfl (by decide) (fun _ _ k x => x) ?_
  intro p loose mean mg mb dp un gd outer A₀ base g L s Q B F X N T hpre hd hu hret
  k_steps
  refine Stop.out ?_
  rename Fr _ _ _ _ => F1
  rename News _ _ _ _ => N1
  rename KBw.bInts _ = _ => hr0
  rw [hend] at hr0
  refine' (scrub_b_ct w _ _).use B F1 X N1 T rfl trivial ?hd ?hu ?_
  case hd => omega
  case hu => omega
  rintro v nw h' tk' ⟨rfl, rfl⟩ k1 fr1 F2 N2
  clear F1 N1
  k_steps
  rename KBw.bInts _ = List.dropWhile _ _ => hl
  rename KBw.bInts (KBy.picked _ _ _) = _ => h01
  have hpk : List.take (clipAt ss.length 1 - clipAt ss.length 0) (List.drop (clipAt ss.length 0) ss) = [ss.getD 0 0] := pick_one (j := 0) (by omega) (by omega)
  rw [hpk, drop_lead] at hl
  have hzl : lead (ss.getD 0 0) ks ≤ ks.length := lead_le _ _
  have hln : (ks.drop (lead (ss.getD 0 0) ks)).length ≤ 1000 := by
    rw [List.length_drop]
    omega
  k_steps
  refine Stop.out ?_
  rename Fr _ _ _ _ => F3
  rename News _ _ _ _ => N3
  refine' (dec_kw_ct w _ sg (ks.drop (lead (ss.getD 0 0) ks)) ss _ tb hl hs h2 h3 (by omega) h32 (fun k hk => hall k (List.mem_of_mem_drop hk))).use B F3 X N3 T rfl trivial ?hd ?hu ?_
  case hd => omega
  case hu => omega
  rintro v nw h' tk' ⟨rfl, t5, rfl⟩ k5 fr5 F5 N5
  clear F3 N3
  have hpos : 0 ≤ rankNum ss (ks.drop (lead (ss.getD 0 0) ks)) := rankNum_nonneg fun k hk => hall k (List.mem_of_mem_drop hk)
  k_steps
  refine Stop.out ?_
  rename Fr _ _ _ _ => F6
  rename News _ _ _ _ => N6
  refine name_addr N6 ?_
  intro Rl hRl
  subst hRl
  refine While_inv2 (fun n m nw => ∃ vs3 ms n3 c3 t3 t6 t7, nw = [(Rl, listOf vs3.toArray n3)] ∧ n = c3.toNat ∧ IntsAre vs3 ms ∧ 0 ≤ c3 ∧ (∀ d ∈ ms, 0 ≤ d ∧ d < 256) ∧ ledI 256 (rankNum ss (ks.drop (lead (ss.getD 0 0) ks))) = ms ++ ledI 256 c3 ∧ m "acc" = some (.int c3 t3) ∧ m "result" = some (.ref Rl) ∧ m "origlen" = some (.int (ks.length : Int) t6) ∧ m "newlen" = some (.int ((ks.length - lead (ss.getD 0 0) ks : Nat) : Int) t7)) F6 N6
    ⟨[], [], 0, _, _, _, _, rfl, rfl, .nil, hpos, by simp, rfl, rfl, rfl, rfl, rfl⟩ ?_ PassesOwn.never
  rintro n9 m₁ nw h₁ tk₁ F₁ N₁ ⟨vs3, ms, n3, c3, t3, t6, t7, rfl, rfl, hvs3, hc3, hms, hq3, e1, e2, e3, e4⟩
  have F₂ := fr_pin [("acc", .int c3 t3), ("result", .ref Rl), ("origlen", .int (ks.length : Int) t6), ("newlen", .int ((ks.length - lead (ss.getD 0 0) ks : Nat) : Int) t7)] (by simp [e1, e2, e3, e4]) F₁
  clear F₁ F6 N6
  have hl3 := congrArg List.length hq3
  rw [List.length_append] at hl3
  have hl4 := hvs3.length
  have hz9 : vs3.toArray.size ≤ 5000 := by
    rw [List.size_toArray]
    omega
  k_steps
  · rename Fr _ _ _ _ => F3
    rename News _ _ _ _ => N3
    rename 0 < c3 => hcp
    refine append_K F3 (news_sub N3 (by simp) : News g L _ [(Rl, listOf vs3.toArray n3)]) (.head (by simp)) ?_ (by rw [sizeLine_eq]; omega)
    intro h9 F9 N9
    rw [List.push_toArray] at N9
    clear F3 N3
    k_steps
    rename Fr _ _ _ _ => F3
    rename News _ _ _ _ => N3
    have hdv : 0 ≤ c3.fdiv 256 ∧ (c3.fdiv 256).toNat < c3.toNat := by
      rw [fdiv_pos _ (by omega)]
      omega
    refine ⟨_, _, _, _, _, rfl, F3, N3, hdv.2, _, _, _, _, _, _, _, rfl, rfl, hvs3.append (.cons _ _ .nil), hdv.1, ?_, ?_, rfl, rfl, rfl, rfl⟩
    · intro d hd
      rcases List.mem_append.mp hd with hd | hd
      · exact hms d hd
      · rw [List.mem_singleton.mp hd, fmod_pos _ (by omega)]
        exact emod_in (by omega)
    · rw [hq3, ledI_step (by omega) hcp, fdiv_pos _ (by omega), fmod_pos _ (by omega), List.append_assoc]
      rfl
  · rename ¬ 0 < c3 => hcp
    rename Fr _ _ _ _ => F3
    rename News _ _ _ _ => N3
    rename @LT.lt Nat _ Rl _ => hRl
    have hr := (N3 (Rl, listOf vs3.toArray n3) (by simp)).1
    refine R.bw_call F3 N3 (by intro p hp; rw [List.mem_singleton.mp hp]; exact Nat.ne_of_lt hRl) ⟨_, hr, rfl, n3, rfl⟩ (Nat.ne_of_lt hRl) hvs3 hms (by omega) (by rfl) ?_
    intro h9 t9 k9 F9 N9
    k_steps
    refine Stop.out ?_
    have hz1 : ((ks.length : Int) - ((ks.length - lead (ss.getD 0 0) ks : Nat) : Int)).toNat = lead (ss.getD 0 0) ks := by omega
    rw [hz1]
    refine KBa.add_K (rep_ints _) (KBa.ints_make (ns := ms.reverse) (fun d hd => hms d (List.mem_reverse.mp hd))) (by rw [List.length_replicate, List.length_reverse]; omega) ?_
    intro r2 t2 hr2
    rw [ledI_zero (c := c3) (by omega), List.append_nil] at hq3
    exact hret _ [] _ _ _ ⟨rfl, _, _, rfl, by rw [hr2, hq3]⟩ F9 News.nil
end Mine
-- E2
namespace Mine
local macro_rules | `(tactic| walk_at "none") => `(tactic| fail)
local macro_rules | `(tactic| walk_at "none") => `(tactic| fail)
local macro_rules | `(tactic| walk_at "none") => `(tactic| fail)
local macro_rules | `(tactic| walk_at "none") => `(tactic| fail)
local macro_rules | `(tactic| walk_at "none") => `(tactic| fail)
local macro_rules | `(tactic| walk_at "none") => `(tactic| fail)
local macro_rules | `(tactic| walk_at "none") => `(tactic| fail)
local macro_rules | `(tactic| walk_at "none") => `(tactic| fail)
theorem fresh_walk_E2 : True := by
 w_top off
 trivial
local macro_rules | `(tactic| walk1) => `(tactic| ((with_reducible show wpAny _ _ (exec (Stmt.While _ _ _ _) _) _ _ _); refine Stop.into ?_))
local macro_rules | `(tactic| walk1) => `(tactic| ((with_reducible show wpAny _ _ (exec (Stmt.For _ _ _ _ _) _) _ _ _); refine Stop.into ?_))
local macro_rules | `(tactic| walk1) => `(tactic| ((with_reducible show wpAny _ _ (pyIter _) _ _ _); refine Stop.into ?_))
local macro_rules | `(tactic| walk1) => `(tactic| ((with_reducible show wpAny _ _ (call (Value.ref _) _ _) _ _ _); refine Stop.into ?_))
local macro_rules | `(tactic| walk_at "getMethod bytes") => `(tactic| (with_reducible refine R.lstrip_method ?_))
local macro_rules | `(tactic| walk_at "getMethod bytes") => `(tactic| (with_reducible refine R.rstrip_method ?_))
local macro_rules | `(tactic| walk_at "getMethod str") => `(tactic| (with_reducible refine R.encode_method ?_))
local macro_rules | `(tactic| walk_at "call builtin:bytes.lstrip") => `(tactic| ((with_reducible show wpAny _ _ (call (Value.builtin "bytes.lstrip") [Value.bytes _ _, Value.bytes _ _]) _ _ _); (refine R.lstrip_call (by kba_ints2) (by kba_ints2) (by kba_size) ?_); intro _ _ _ hlst))
local macro_rules | `(tactic| walk_at "call builtin:bytes.rstrip") => `(tactic| ((with_reducible show wpAny _ _ (call (Value.builtin "bytes.rstrip") [Value.bytes _ _]) _ _ _); (refine R.rstrip_call (by kba_ints2) (by kba_size) ?_); intro _ _ _ hrst))
local macro_rules | `(tactic| walk_at "callWith ref") => `(tactic| (k_here; kfb_any; k_dflt (refine' R.fb_callWith ?hN ?hM ?ha ?_; (case hN => k_asm); (case hM => k_mem); (case ha => exact rfl); k_whole)))
local macro_rules | `(tactic| walk1) => `(tactic| ((with_reducible show wpAny _ _ (binaryOp Operator.Add (Value.bytes _ _) (Value.bytes _ _)) _ _ _); first | ((refine KBa.add_K (by kba_ints2) (by kba_ints2) (by ((try simp only [List.length_replicate, List.length_append, List.length_map, List.length_take, List.length_drop, List.length_cons, List.length_nil]); omega)) ?_); intro _ _ kbaApp) | (refine Stop.into ?_)))
local macro_rules | `(tactic| walk1) => `(tactic| ((with_reducible show wpAny _ _ (exec (Stmt.Assign _ (PySem.Expr.DictComp _ _ _ _ _) _) _) _ _ _); refine Stop.into ?_))
local macro_rules | `(tactic| walk1) => `(tactic| ((with_reducible show wpAny _ _ (call (Value.type "enumerate") _ _) _ _ _); refine Stop.into ?_))
theorem b58_s_ct (w : World) (x : PySem.Str) (sg : Array UInt8) (ks ss : List Int) (ta tb : Nat) (hx : ∀ c ∈ x.cps, c < 128) (hxz : x.length ≤ 1000) (hb : KBw.bInts (x.cps.map fun c => c.toUInt8) = ks) (hs : KBw.bInts sg = ss) (h2 : 2 ≤ ss.length) (h3 : ss.length ≤ 200) (h4 : ks.length ≤ 1000) (h32 : (32 : Int) ∈ ss) (hall : ∀ k ∈ ks, k ∈ ss) (hend : Txt.rstrip x = x)
    (hlen : (ledI 256 (rankNum ss (ks.drop (lead (ss.getD 0 0) ks)))).length ≤ 5000) :
    Ct (PySem.Challenge.rw_eg5003_01.row.prog) w (Mine.hd.heap_39 w.params) 60 20 (fun _ => True) [.str x ta, .bytes sg tb] [] (fun v nw => nw = [] ∧ ∃ r t, v = .bytes r t ∧ KBw.bInts r = List.replicate (lead (ss.getD 0 0) ks) 0 ++ (ledI 256 (rankNum ss (ks.drop (lead (ss.getD 0 0) ks)))).reverse) := by
  k_fill
  refine' Ct.of (by k_is) (by k_is) (fun s X => by exact kp_binds X (fun _ => rfl)) (locs rfl) rfl rfl rfl (by decide) (fun _ _ k x => x) ?_
  intro p loose mean mg mb dp un gd outer A₀ base g L s Q B F X N T hpre hd hu hret
  k_steps
  refine Stop.out ?_
  rename Fr _ _ _ _ => F1
  rename News _ _ _ _ => N1
  rw [hend]
  rw [hend] at F1
  refine' (scrub_s_ct w x _ hx hxz).use B F1 X N1 T rfl trivial ?hd ?hu ?_
  case hd => omega
  case hu => omega
  rintro v nw h' tk' ⟨rfl, t0, rfl⟩ k1 fr1 F2 N2
  clear F1 N1
  k_steps
  rename KBw.bInts _ = List.dropWhile _ _ => hl
  rename KBw.bInts (KBy.picked _ _ _) = _ => h01
  have hpk : List.take (clipAt ss.length 1 - clipAt ss.length 0) (List.drop (clipAt ss.length 0) ss) = [ss.getD 0 0] := pick_one (j := 0) (by omega) (by omega)
  rw [hpk, drop_lead] at hl
  have hzl : lead (ss.getD 0 0) ks ≤ ks.length := lead_le _ _
  have hln : (ks.drop (lead (ss.getD 0 0) ks)).length ≤ 1000 := by
    rw [List.length_drop]
    omega
  k_steps
  refine Stop.out ?_
  rename Fr _ _ _ _ => F3
  rename News _ _ _ _ => N3
  refine' (dec_kw_ct w _ sg (ks.drop (lead (ss.getD 0 0) ks)) ss _ tb hl hs h2 h3 (by omega) h32 (fun k hk => hall k (List.mem_of_mem_drop hk))).use B F3 X N3 T rfl trivial ?hd ?hu ?_
  case hd => omega
  case hu => omega
  rintro v nw h' tk' ⟨rfl, t5, rfl⟩ k5 fr5 F5 N5
  clear F3 N3
  have hpos : 0 ≤ rankNum ss (ks.drop (lead (ss.getD 0 0) ks)) := rankNum_nonneg fun k hk => hall k (List.mem_of_mem_drop hk)
  k_steps
  refine Stop.out ?_
  rename Fr _ _ _ _ => F6
  rename News _ _ _ _ => N6
  refine name_addr N6 ?_
  intro Rl hRl
  subst hRl
  refine While_inv2 (fun n m nw => ∃ vs3 ms n3 c3 t3 t6 t7, nw = [(Rl, listOf vs3.toArray n3)] ∧ n = c3.toNat ∧ IntsAre vs3 ms ∧ 0 ≤ c3 ∧ (∀ d ∈ ms, 0 ≤ d ∧ d < 256) ∧ ledI 256 (rankNum ss (ks.drop (lead (ss.getD 0 0) ks))) = ms ++ ledI 256 c3 ∧ m "acc" = some (.int c3 t3) ∧ m "result" = some (.ref Rl) ∧ m "origlen" = some (.int (ks.length : Int) t6) ∧ m "newlen" = some (.int ((ks.length - lead (ss.getD 0 0) ks : Nat) : Int) t7)) F6 N6
    ⟨[], [], 0, _, _, _, _, rfl, rfl, .nil, hpos, by simp, rfl, rfl, rfl, rfl, rfl⟩ ?_ PassesOwn.never
  rintro n9 m₁ nw h₁ tk₁ F₁ N₁ ⟨vs3, ms, n3, c3, t3, t6, t7, rfl, rfl, hvs3, hc3, hms, hq3, e1, e2, e3, e4⟩
  have F₂ := fr_pin [("acc", .int c3 t3), ("result", .ref Rl), ("origlen", .int (ks.length : Int) t6), ("newlen", .int ((ks.length - lead (ss.getD 0 0) ks : Nat) : Int) t7)] (by simp [e1, e2, e3, e4]) F₁
  clear F₁ F6 N6
  have hl3 := congrArg List.length hq3
  rw [List.length_append] at hl3
  have hl4 := hvs3.length
  have hz9 : vs3.toArray.size ≤ 5000 := by
    rw [List.size_toArray]
    omega
  k_steps
  · rename Fr _ _ _ _ => F3
    rename News _ _ _ _ => N3
    rename 0 < c3 => hcp
    refine append_K F3 (news_sub N3 (by simp) : News g L _ [(Rl, listOf vs3.toArray n3)]) (.head (by simp)) ?_ (by rw [sizeLine_eq]; omega)
    intro h9 F9 N9
    rw [List.push_toArray] at N9
    clear F3 N3
    k_steps
    rename Fr _ _ _ _ => F3
    rename News _ _ _ _ => N3
    have hdv : 0 ≤ c3.fdiv 256 ∧ (c3.fdiv 256).toNat < c3.toNat := by
      rw [fdiv_pos _ (by omega)]
      omega
    refine ⟨_, _, _, _, _, rfl, F3, N3, hdv.2, _, _, _, _, _, _, _, rfl, rfl, hvs3.append (.cons _ _ .nil), hdv.1, ?_, ?_, rfl, rfl, rfl, rfl⟩
    · intro d hd
      rcases List.mem_append.mp hd with hd | hd
      · exact hms d hd
      · rw [List.mem_singleton.mp hd, fmod_pos _ (by omega)]
        exact emod_in (by omega)
    · rw [hq3, ledI_step (by omega) hcp, fdiv_pos _ (by omega), fmod_pos _ (by omega), List.append_assoc]
      rfl
  · rename ¬ 0 < c3 => hcp
    rename Fr _ _ _ _ => F3
    rename News _ _ _ _ => N3
    rename @LT.lt Nat _ Rl _ => hRl
    have hr := (N3 (Rl, listOf vs3.toArray n3) (by simp)).1
    refine R.bw_call F3 N3 (by intro p hp; rw [List.mem_singleton.mp hp]; exact Nat.ne_of_lt hRl) ⟨_, hr, rfl, n3, rfl⟩ (Nat.ne_of_lt hRl) hvs3 hms (by omega) (by rfl) ?_
    intro h9 t9 k9 F9 N9
    k_steps
    refine Stop.out ?_
    have hz1 : ((ks.length : Int) - ((ks.length - lead (ss.getD 0 0) ks : Nat) : Int)).toNat = lead (ss.getD 0 0) ks := by omega
    rw [hz1]
    refine KBa.add_K (rep_ints _) (KBa.ints_make (ns := ms.reverse) (fun d hd => hms d (List.mem_reverse.mp hd))) (by rw [List.length_replicate, List.length_reverse]; omega) ?_
    intro r2 t2 hr2
    rw [ledI_zero (c := c3) (by omega), List.append_nil] at hq3
    exact hret _ [] _ _ _ ⟨rfl, _, _, rfl, by rw [hr2, hq3]⟩ F9 News.nil
end Mine
-- HA
namespace Mine
local macro_rules | `(tactic| walk_at "none") => `(tactic| fail)
local macro_rules | `(tactic| walk_at "none") => `(tactic| fail)
local macro_rules | `(tactic| walk_at "none") => `(tactic| fail)
local macro_rules | `(tactic| walk_at "none") => `(tactic| fail)
local macro_rules | `(tactic| walk_at "none") => `(tactic| fail)
local macro_rules | `(tactic| walk_at "none") => `(tactic| fail)
local macro_rules | `(tactic| walk_at "none") => `(tactic| fail)
local macro_rules | `(tactic| walk_at "none") => `(tactic| fail)
local macro_rules | `(tactic| walk_at "none") => `(tactic| fail)
theorem fresh_walk_HA : True := by
 w_top off
 trivial
local macro_rules | `(tactic| walk1) => `(tactic| ((with_reducible show wpAny _ _ (exec (Stmt.While _ _ _ _) _) _ _ _); refine Stop.into ?_))
local macro_rules | `(tactic| walk1) => `(tactic| ((with_reducible show wpAny _ _ (exec (Stmt.For _ _ _ _ _) _) _ _ _); refine Stop.into ?_))
local macro_rules | `(tactic| walk1) => `(tactic| ((with_reducible show wpAny _ _ (pyIter _) _ _ _); refine Stop.into ?_))
local macro_rules | `(tactic| walk1) => `(tactic| ((with_reducible show wpAny _ _ (call (Value.ref _) _ _) _ _ _); refine Stop.into ?_))
local macro_rules | `(tactic| walk_at "getMethod bytes") => `(tactic| (with_reducible refine R.lstrip_method ?_))
local macro_rules | `(tactic| walk_at "getMethod bytes") => `(tactic| (with_reducible refine R.rstrip_method ?_))
local macro_rules | `(tactic| walk_at "getMethod str") => `(tactic| (with_reducible refine R.encode_method ?_))
local macro_rules | `(tactic| walk_at "call builtin:bytes.lstrip") => `(tactic| ((with_reducible show wpAny _ _ (call (Value.builtin "bytes.lstrip") [Value.bytes _ _, Value.bytes _ _]) _ _ _); (refine R.lstrip_call (by kba_ints2) (by kba_ints2) (by kba_size) ?_); intro _ _ _ hlst))
local macro_rules | `(tactic| walk_at "call builtin:bytes.rstrip") => `(tactic| ((with_reducible show wpAny _ _ (call (Value.builtin "bytes.rstrip") [Value.bytes _ _]) _ _ _); (refine R.rstrip_call (by kba_ints2) (by kba_size) ?_); intro _ _ _ hrst))
local macro_rules | `(tactic| walk_at "callWith ref") => `(tactic| (k_here; kfb_any; k_dflt (refine' R.fb_callWith ?hN ?hM ?ha ?_; (case hN => k_asm); (case hM => k_mem); (case ha => exact rfl); k_whole)))
local macro_rules | `(tactic| walk1) => `(tactic| ((with_reducible show wpAny _ _ (binaryOp Operator.Add (Value.bytes _ _) (Value.bytes _ _)) _ _ _); first | ((refine KBa.add_K (by kba_ints2) (by kba_ints2) (by ((try simp only [List.length_replicate, List.length_append, List.length_map, List.length_take, List.length_drop, List.length_cons, List.length_nil]); omega)) ?_); intro _ _ kbaApp) | (refine Stop.into ?_)))
def draw (ns : List Int) (k : Int) : Int :=
  if ns.length = 0 then 5 * k + 2 else ns.getD (k % (ns.length : Int)).toNat 0 + 37 * (k / (ns.length : Int))
theorem draw_ct (w : World) (l : Addr) (vs : List Value) (ns : List Int) (k : Int) (tk : Nat) (hi : IntsAre vs ns) (hn : ns.length < 64) :
    Ct (PySem.Challenge.rw_eg5003_01.row.prog) w (Mine.hd.heap_39 w.params) 69 5 (fun h => h.IsList l vs.toArray) [.ref l, .int k tk] [] (fun v nw => nw = [] ∧ ∃ t, v = .int (draw ns k) t) := by
  k_fill
  refine' Ct.of (by k_is) (by k_is) (fun s _ => BindsTo.of_eq rfl) (locs rfl) rfl rfl rfl (by decide) (fun _ _ k x => list_mono k x) ?_
  intro p loose mean mg mb dp un gd outer A₀ base g L s Q B F X N T hpre hd hu hret
  k_steps
  · dsimp only
    exact hret _ [] _ _ _ ⟨rfl, _, by rw [draw, if_neg (by omega), fmod_pos _ (by omega), fdiv_pos _ (by omega)]⟩ F N
  · dsimp only
    exact hret _ [] _ _ _ ⟨rfl, _, by rw [draw, if_pos (by omega)]⟩ F N
theorem noughts_l_ct (w : World) (l : Addr) (vs : List Value) (ks : List Int) (hi : IntsAre vs ks) (hz : ks.length ≤ 200) :
    Ct (PySem.Challenge.rw_eg5003_01.row.prog) w (Mine.hd.heap_39 w.params) 88 5 (fun h => h.IsList l vs.toArray) [.ref l] [] (fun v nw => nw = [] ∧ ∃ t, v = .int (nough ks : Nat) t) := by
  k_fill
  refine' Ct.of (by k_is) (by k_is) (fun s X => BindsTo.of_eq rfl) (locs rfl) rfl rfl rfl (by decide) (fun _ _ k x => list_mono k x) ?_
  intro p loose mean mg mb dp un gd outer A₀ base' g L s Q B F X N T hpre hd hu hret
  k_steps
  refine Stop.out ?_
  rename Fr _ _ _ _ => F1
  rename News _ _ _ _ => N1
  refine While_inv2 (fun n m nw => nw = [] ∧ ∃ (j : Nat) (t : Tok), m "count" = some (.int (j : Int) t) ∧ m "row" = some (.ref l) ∧ j ≤ ks.length ∧ n = ks.length - j ∧ nough ks = j + nough (ks.drop j)) F1 N1 ⟨rfl, 0, _, rfl, rfl, by omega, rfl, by simp⟩ ?_ PassesOwn.never
  rintro n m₁ nw h₁ tk₁ F₁ N₁ ⟨rfl, j, t, e1, e2, hj, rfl, hn⟩
  have F₂ := fr_pin [("count", .int (j : Int) t), ("row", .ref l)] (by simp [e1, e2]) F₁
  clear F1 N1 F₁
  k_steps
  · rename Fr _ _ _ _ => F3
    rename News _ _ _ _ => N3
    rename ks.getD _ 0 = 0 => hz0
    have hlt : j < ks.length := by omega
    rw [Int.toNat_natCast] at hz0
    have e3 : nough (ks.drop j) = nough (ks.drop (j + 1)) + 1 := by rw [drop_at hlt, hz0, nough_zero]
    exact ⟨_, _, _, [], _, rfl, F3, N3, (by omega : ks.length - (j + 1) < ks.length - j), rfl, j + 1, _, rfl, rfl, by omega, rfl, by omega⟩
  · rename ks.getD _ 0 ≠ 0 => hz0
    have hlt : j < ks.length := by omega
    rw [Int.toNat_natCast] at hz0
    dsimp only
    exact hret _ [] _ _ _ ⟨rfl, t, by rw [hn, drop_at hlt, nough_pos hz0, Nat.add_zero]⟩ F₂ N₁
  · have hge : ks.length ≤ j := by omega
    dsimp only
    exact hret _ [] _ _ _ ⟨rfl, t, by rw [hn, List.drop_of_length_le hge, nough_nil, Nat.add_zero]⟩ F₂ N₁
theorem noughts_b_ct (w : World) (b : Array UInt8) (tk : Nat) (ks : List Int) (hi : KBw.bInts b = ks) (hz : ks.length ≤ 200) :
    Ct (PySem.Challenge.rw_eg5003_01.row.prog) w (Mine.hd.heap_39 w.params) 88 5 (fun h => True) [.bytes b tk] [] (fun v nw => nw = [] ∧ ∃ t, v = .int (nough ks : Nat) t) := by
  k_fill
  refine' Ct.of (by k_is) (by k_is) (fun s X => BindsTo.of_eq rfl) (locs rfl) rfl rfl rfl (by decide) (fun _ _ k x => x) ?_
  intro p loose mean mg mb dp un gd outer A₀ base' g L s Q B F X N T hpre hd hu hret
  k_steps
  refine Stop.out ?_
  rename Fr _ _ _ _ => F1
  rename News _ _ _ _ => N1
  refine While_inv2 (fun n m nw => nw = [] ∧ ∃ (j : Nat) (t : Tok), m "count" = some (.int (j : Int) t) ∧ m "row" = some (.bytes b tk) ∧ j ≤ ks.length ∧ n = ks.length - j ∧ nough ks = j + nough (ks.drop j)) F1 N1 ⟨rfl, 0, _, rfl, rfl, by omega, rfl, by simp⟩ ?_ PassesOwn.never
  rintro n m₁ nw h₁ tk₁ F₁ N₁ ⟨rfl, j, t, e1, e2, hj, rfl, hn⟩
  have F₂ := fr_pin [("count", .int (j : Int) t), ("row", .bytes b tk)] (by simp [e1, e2]) F₁
  clear F1 N1 F₁
  k_steps
  · rename Fr _ _ _ _ => F3
    rename News _ _ _ _ => N3
    rename ks.getD _ 0 = 0 => hz0
    have hlt : j < ks.length := by omega
    rw [Int.toNat_natCast] at hz0
    have e3 : nough (ks.drop j) = nough (ks.drop (j + 1)) + 1 := by rw [drop_at hlt, hz0, nough_zero]
    exact ⟨_, _, _, [], _, rfl, F3, N3, (by omega : ks.length - (j + 1) < ks.length - j), rfl, j + 1, _, rfl, rfl, by omega, rfl, by omega⟩
  · rename ks.getD _ 0 ≠ 0 => hz0
    have hlt : j < ks.length := by omega
    rw [Int.toNat_natCast] at hz0
    dsimp only
    exact hret _ [] _ _ _ ⟨rfl, t, by rw [hn, drop_at hlt, nough_pos hz0, Nat.add_zero]⟩ F₂ N₁
  · have hge : ks.length ≤ j := by omega
    dsimp only
    exact hret _ [] _ _ _ ⟨rfl, t, by rw [hn, List.drop_of_length_le hge, nough_nil, Nat.add_zero]⟩ F₂ N₁
end Mine
-- HB
namespace Mine
local macro_rules | `(tactic| walk_at "none") => `(tactic| fail)
local macro_rules | `(tactic| walk_at "none") => `(tactic| fail)
local macro_rules | `(tactic| walk_at "none") => `(tactic| fail)
local macro_rules | `(tactic| walk_at "none") => `(tactic| fail)
local macro_rules | `(tactic| walk_at "none") => `(tactic| fail)
local macro_rules | `(tactic| walk_at "none") => `(tactic| fail)
local macro_rules | `(tactic| walk_at "none") => `(tactic| fail)
local macro_rules | `(tactic| walk_at "none") => `(tactic| fail)
theorem fresh_walk_HB : True := by
 w_top off
 trivial
local macro_rules | `(tactic| walk1) => `(tactic| ((with_reducible show wpAny _ _ (exec (Stmt.While _ _ _ _) _) _ _ _); refine Stop.into ?_))
local macro_rules | `(tactic| walk1) => `(tactic| ((with_reducible show wpAny _ _ (exec (Stmt.For _ _ _ _ _) _) _ _ _); refine Stop.into ?_))
local macro_rules | `(tactic| walk1) => `(tactic| ((with_reducible show wpAny _ _ (pyIter _) _ _ _); refine Stop.into ?_))
local macro_rules | `(tactic| walk1) => `(tactic| ((with_reducible show wpAny _ _ (call (Value.ref _) _ _) _ _ _); refine Stop.into ?_))
local macro_rules | `(tactic| walk_at "getMethod bytes") => `(tactic| (with_reducible refine R.lstrip_method ?_))
local macro_rules | `(tactic| walk_at "getMethod bytes") => `(tactic| (with_reducible refine R.rstrip_method ?_))
local macro_rules | `(tactic| walk_at "getMethod str") => `(tactic| (with_reducible refine R.encode_method ?_))
local macro_rules | `(tactic| walk_at "call builtin:bytes.lstrip") => `(tactic| ((with_reducible show wpAny _ _ (call (Value.builtin "bytes.lstrip") [Value.bytes _ _, Value.bytes _ _]) _ _ _); (refine R.lstrip_call (by kba_ints2) (by kba_ints2) (by kba_size) ?_); intro _ _ _ hlst))
local macro_rules | `(tactic| walk_at "call builtin:bytes.rstrip") => `(tactic| ((with_reducible show wpAny _ _ (call (Value.builtin "bytes.rstrip") [Value.bytes _ _]) _ _ _); (refine R.rstrip_call (by kba_ints2) (by kba_size) ?_); intro _ _ _ hrst))
local macro_rules | `(tactic| walk_at "callWith ref") => `(tactic| (k_here; kfb_any; k_dflt (refine' R.fb_callWith ?hN ?hM ?ha ?_; (case hN => k_asm); (case hM => k_mem); (case ha => exact rfl); k_whole)))
local macro_rules | `(tactic| walk1) => `(tactic| ((with_reducible show wpAny _ _ (binaryOp Operator.Add (Value.bytes _ _) (Value.bytes _ _)) _ _ _); first | ((refine KBa.add_K (by kba_ints2) (by kba_ints2) (by ((try simp only [List.length_replicate, List.length_append, List.length_map, List.length_take, List.length_drop, List.length_cons, List.length_nil]); omega)) ?_); intro _ _ kbaApp) | (refine Stop.into ?_)))
local macro_rules | `(tactic| walk1) => `(tactic| ((with_reducible show wpAny _ _ (binaryOp Operator.Mult (Value.int _ _) (Value.int _ _)) _ _ _); refine Stop.into ?_))
theorem number_l_ct (w : World) (l : Addr) (vs : List Value) (ks : List Int) (base : Int) (tk : Nat) (hi : IntsAre vs ks) (h0 : ∀ k ∈ ks, 0 ≤ k ∧ k < 256) (hb : 0 ≤ base ∧ base ≤ 256) (hz : ks.length ≤ 200) :
    Ct (PySem.Challenge.rw_eg5003_01.row.prog) w (Mine.hd.heap_39 w.params) 95 5 (fun h => h.IsList l vs.toArray) [.ref l, .int base tk] [] (fun v nw => nw = [] ∧ ∃ t, v = .int (digNum ks base) t) := by
  k_fill
  refine' Ct.of (by k_is) (by k_is) (fun s X => BindsTo.of_eq rfl) (locs rfl) rfl rfl rfl (by decide) (fun _ _ k x => list_mono k x) ?_
  intro p loose mean mg mb dp un gd outer A₀ base' g L s Q B F X N T hpre hd hu hret
  k_steps
  refine Stop.out ?_
  rename Fr _ _ _ _ => F1
  rename News _ _ _ _ => N1
  refine For_invVF F1 (by rfl) (by rfl) ?_
  k_steps
  refine Stop.out ?_
  rename Fr _ _ _ _ => F1
  rename News _ _ _ _ => N1
  rename IsRange _ _ _ _ _ _ _ _ => R1
  refine iter_rangeN (n := ks.length) (fun i m nw => nw = [] ∧ ∃ t, m "total" = some (.int (digNum (ks.drop (ks.length - i)) base) t) ∧ m "row" = some (.ref l) ∧ m "base" = some (.int base tk)) (by rfl) R1 (rsmall _ (by omega)) (rs_one _) F1 N1 ⟨rfl, _, by rw [Nat.sub_zero, List.drop_length]; rfl, rfl, rfl⟩ ?_ ?_
  · rintro i t m₁ nx h tk₁ own hin hoff hadr ⟨rfl, t2, e1, e2, e3⟩ F₁ N₁
    have F₂ := fr_turn [("total", .int (digNum (ks.drop (ks.length - i)) base) t2), ("row", .ref l), ("base", .int base tk)] (by simp [e1, e2, e3]) F₁
    clear F1 N1 F₁
    k_steps
    have hx : (-1 - (0 + (i : Int)) + (ks.length : Int)).toNat = ks.length - 1 - i := by omega
    have hlt : ks.length - 1 - i < ks.length := by omega
    have hk := h0 (ks.getD (ks.length - 1 - i) 0) (by rw [List.getD_eq_getElem?_getD, List.getElem?_eq_getElem hlt]; exact List.getElem_mem hlt)
    refine Stop.out ?_
    refine mul_int ?_ (mul_left (by rw [hx]; exact hk.1) (by rw [hx]; omega))
    k_steps
    rename Fr _ _ _ _ => F3
    rename News _ _ _ _ => N3
    have e4 : digNum (ks.drop (ks.length - (i + 1))) base = digNum (ks.drop (ks.length - i)) base + ks.getD (-1 - (0 + (i : Int)) + (ks.length : Int)).toNat 0 * base ^ (0 + (i : Int)).toNat := by
      rw [drop_back hin, digNum_cons, List.length_drop, hx]
      have e5 : ks.length - (ks.length - i) = (0 + (i : Int)).toNat := by omega
      rw [e5, Int.add_comm]
    simp only [e4]
    refine InvEndN.intro F3 N3 ⟨rfl, _, rfl, rfl, rfl⟩ rfl (by simp) (by simp)
  · rintro m₁ nx h tk₁ ⟨rfl, t2, e1, e2, e3⟩ F₁ N₁
    have F₂ := fr_pin [("total", .int (digNum (ks.drop (ks.length - ks.length)) base) t2)] (by simp [e1]) F₁
    clear F1 N1 F₁
    k_steps
    dsimp only
    refine hret _ [] _ _ _ ⟨rfl, t2, ?_⟩ F₂ N₁
    rw [Nat.sub_self, List.drop_zero]
theorem number_b_ct (w : World) (b : Array UInt8) (ta : Nat) (ks : List Int) (base : Int) (tk : Nat) (hi : KBw.bInts b = ks) (h0 : ∀ k ∈ ks, 0 ≤ k ∧ k < 256) (hb : 0 ≤ base ∧ base ≤ 256) (hz : ks.length ≤ 200) :
    Ct (PySem.Challenge.rw_eg5003_01.row.prog) w (Mine.hd.heap_39 w.params) 95 5 (fun _ => True) [.bytes b ta, .int base tk] [] (fun v nw => nw = [] ∧ ∃ t, v = .int (digNum ks base) t) := by
  k_fill
  refine' Ct.of (by k_is) (by k_is) (fun s X => BindsTo.of_eq rfl) (locs rfl) rfl rfl rfl (by decide) (fun _ _ k x => x) ?_
  intro p loose mean mg mb dp un gd outer A₀ base' g L s Q B F X N T hpre hd hu hret
  k_steps
  refine Stop.out ?_
  rename Fr _ _ _ _ => F1
  rename News _ _ _ _ => N1
  refine For_invVF F1 (by rfl) (by rfl) ?_
  k_steps
  refine Stop.out ?_
  rename Fr _ _ _ _ => F1
  rename News _ _ _ _ => N1
  rename IsRange _ _ _ _ _ _ _ _ => R1
  refine iter_rangeN (n := ks.length) (fun i m nw => nw = [] ∧ ∃ t, m "total" = some (.int (digNum (ks.drop (ks.length - i)) base) t) ∧ m "row" = some (.bytes b ta) ∧ m "base" = some (.int base tk)) (by rfl) R1 (rsmall _ (by omega)) (rs_one _) F1 N1 ⟨rfl, _, by rw [Nat.sub_zero, List.drop_length]; rfl, rfl, rfl⟩ ?_ ?_
  · rintro i t m₁ nx h tk₁ own hin hoff hadr ⟨rfl, t2, e1, e2, e3⟩ F₁ N₁
    have F₂ := fr_turn [("total", .int (digNum (ks.drop (ks.length - i)) base) t2), ("row", .bytes b ta), ("base", .int base tk)] (by simp [e1, e2, e3]) F₁
    clear F1 N1 F₁
    k_steps
    have hx : (-1 - (0 + (i : Int)) + (ks.length : Int)).toNat = ks.length - 1 - i := by omega
    have hlt : ks.length - 1 - i < ks.length := by omega
    have hk := h0 (ks.getD (ks.length - 1 - i) 0) (by rw [List.getD_eq_getElem?_getD, List.getElem?_eq_getElem hlt]; exact List.getElem_mem hlt)
    refine Stop.out ?_
    rename 0 ≤ ks.getD _ 0 => hz1
    rename ks.getD _ 0 < 256 => hz2
    refine mul_int ?_ (mul_left hz1 (by omega))
    clear hz1 hz2
    k_steps
    rename Fr _ _ _ _ => F3
    rename News _ _ _ _ => N3
    have e4 : digNum (ks.drop (ks.length - (i + 1))) base = digNum (ks.drop (ks.length - i)) base + ks.getD (-1 - (0 + (i : Int)) + (ks.length : Int)).toNat 0 * base ^ (0 + (i : Int)).toNat := by
      rw [drop_back hin, digNum_cons, List.length_drop, hx]
      have e5 : ks.length - (ks.length - i) = (0 + (i : Int)).toNat := by omega
      rw [e5, Int.add_comm]
    simp only [e4]
    refine InvEndN.intro F3 N3 ⟨rfl, _, rfl, rfl, rfl⟩ rfl (by simp) (by simp)
  · rintro m₁ nx h tk₁ ⟨rfl, t2, e1, e2, e3⟩ F₁ N₁
    have F₂ := fr_pin [("total", .int (digNum (ks.drop (ks.length - ks.length)) base) t2)] (by simp [e1]) F₁
    clear F1 N1 F₁
    k_steps
    dsimp only
    refine hret _ [] _ _ _ ⟨rfl, t2, ?_⟩ F₂ N₁
    rw [Nat.sub_self, List.drop_zero]
end Mine
-- HC
namespace Mine
local macro_rules | `(tactic| walk_at "none") => `(tactic| fail)
local macro_rules | `(tactic| walk_at "none") => `(tactic| fail)
local macro_rules | `(tactic| walk_at "none") => `(tactic| fail)
local macro_rules | `(tactic| walk_at "none") => `(tactic| fail)
local macro_rules | `(tactic| walk_at "none") => `(tactic| fail)
local macro_rules | `(tactic| walk_at "none") => `(tactic| fail)
local macro_rules | `(tactic| walk_at "none") => `(tactic| fail)
local macro_rules | `(tactic| walk_at "none") => `(tactic| fail)
local macro_rules | `(tactic| walk_at "none") => `(tactic| fail)
theorem fresh_walk_HC : True := by
 w_top off
 trivial
local macro_rules | `(tactic| walk1) => `(tactic| ((with_reducible show wpAny _ _ (exec (Stmt.While _ _ _ _) _) _ _ _); refine Stop.into ?_))
local macro_rules | `(tactic| walk1) => `(tactic| ((with_reducible show wpAny _ _ (exec (Stmt.For _ _ _ _ _) _) _ _ _); refine Stop.into ?_))
local macro_rules | `(tactic| walk1) => `(tactic| ((with_reducible show wpAny _ _ (pyIter _) _ _ _); refine Stop.into ?_))
local macro_rules | `(tactic| walk1) => `(tactic| ((with_reducible show wpAny _ _ (call (Value.ref _) _ _) _ _ _); refine Stop.into ?_))
local macro_rules | `(tactic| walk_at "getMethod bytes") => `(tactic| (with_reducible refine R.lstrip_method ?_))
local macro_rules | `(tactic| walk_at "getMethod bytes") => `(tactic| (with_reducible refine R.rstrip_method ?_))
local macro_rules | `(tactic| walk_at "getMethod str") => `(tactic| (with_reducible refine R.encode_method ?_))
local macro_rules | `(tactic| walk_at "call builtin:bytes.lstrip") => `(tactic| ((with_reducible show wpAny _ _ (call (Value.builtin "bytes.lstrip") [Value.bytes _ _, Value.bytes _ _]) _ _ _); (refine R.lstrip_call (by kba_ints2) (by kba_ints2) (by kba_size) ?_); intro _ _ _ hlst))
local macro_rules | `(tactic| walk_at "call builtin:bytes.rstrip") => `(tactic| ((with_reducible show wpAny _ _ (call (Value.builtin "bytes.rstrip") [Value.bytes _ _]) _ _ _); (refine R.rstrip_call (by kba_ints2) (by kba_size) ?_); intro _ _ _ hrst))
local macro_rules | `(tactic| walk_at "callWith ref") => `(tactic| (k_here; kfb_any; k_dflt (refine' R.fb_callWith ?hN ?hM ?ha ?_; (case hN => k_asm); (case hM => k_mem); (case ha => exact rfl); k_whole)))
local macro_rules | `(tactic| walk1) => `(tactic| ((with_reducible show wpAny _ _ (binaryOp Operator.Add (Value.bytes _ _) (Value.bytes _ _)) _ _ _); first | ((refine KBa.add_K (by kba_ints2) (by kba_ints2) (by ((try simp only [List.length_replicate, List.length_append, List.length_map, List.length_take, List.length_drop, List.length_cons, List.length_nil]); omega)) ?_); intro _ _ kbaApp) | (refine Stop.into ?_)))
theorem carried_l_ct (w : World) (l : Addr) (vs : List Value) (ks : List Int) (old new : Int) (ta tb : Nat) (hi : IntsAre vs ks) (hk : ∀ k ∈ ks, 0 ≤ k ∧ k < 256) (hz : ks.length ≤ 200) (ho : 0 ≤ old ∧ old ≤ 256) (hn : 2 ≤ new ∧ new ≤ 256)
    (hlen : ∀ i, (List.foldl (carr old new) [] (ks.take i)).length ≤ 5000) :
    Ct (PySem.Challenge.rw_eg5003_01.row.prog) w (Mine.hd.heap_39 w.params) 81 5 (fun h => h.IsList l vs.toArray) [.ref l, .int old ta, .int new tb] [] (fun v nw => ∃ r us n, v = .ref r ∧ nw = [(r, listOf us.toArray n)] ∧ IntsAre us (List.foldl (carr old new) [] ks).reverse) := by
  k_fill
  refine' Ct.of (by k_is) (by k_is) (fun s X => BindsTo.of_eq rfl) (locs rfl) rfl rfl rfl (by decide) (fun _ _ k x => list_mono k x) ?_
  intro p loose mean mg mb dp un gd outer A₀ base' g L s Q B F X N T hpre hd hu hret
  k_steps
  refine Stop.out ?_
  rename Fr _ _ _ _ => F1
  rename News _ _ _ _ => N1
  refine For_invVF F1 (by rfl) (by rfl) ?_
  k_steps
  refine Stop.out ?_
  rename Fr _ _ _ _ => F1
  rename News _ _ _ _ => N1
  refine name_addr N1 ?_
  intro out eo
  subst eo
  refine iter_invN (fun i m nw => ∃ us n, nw = [(out, listOf us.toArray n)] ∧ IntsAre us (List.foldl (carr old new) [] (ks.take i)) ∧ m "row" = some (.ref l) ∧ m "out" = some (.ref out) ∧ m "old" = some (.int old ta) ∧ m "new" = some (.int new tb)) (by rfl) hpre hi F1 N1 ⟨[], 0, rfl, .nil, rfl, rfl, rfl, rfl⟩ ?_ ?_
  · rintro i x t m₁ nx h tk₁ own hix hadr hoff ⟨us, n, rfl, hus, e1, e2, e3, e4⟩ F₁ N₁
    have F₂ := fr_turn [("row", .ref l), ("out", .ref out), ("old", .int old ta), ("new", .int new tb)] (by simp [e1, e2, e3, e4]) F₁
    clear F1 N1 F₁
    k_steps
    refine Stop.out ?_
    rename Fr _ _ _ _ => F1
    rename News _ _ _ _ => N1
    have h0s : ∀ d ∈ List.foldl (carr old new) [] (ks.take i), 0 ≤ d ∧ d < new := by
      exact foldl_carr_in hn.1 _ _ (by simp)
    have h0z := hlen i
    generalize hds0 : List.foldl (carr old new) [] (ks.take i) = ds0 at hus h0s h0z
    refine For_invVF F1 (by rfl) (by rfl) ?_
    k_steps
    refine Stop.out ?_
    rename Fr _ _ _ _ => F1
    rename News _ _ _ _ => N1
    rename IsRange _ _ _ _ _ _ _ _ => R1
    refine iter_rangeN (n := ds0.length) (fun j m nw => ∃ vs2 ds n2 c t2, nw = (out, listOf vs2.toArray n2) :: own ∧ IntsAre vs2 ds ∧ ds.length = ds0.length ∧ 0 ≤ c ∧ (∀ d ∈ ds, 0 ≤ d ∧ d < new) ∧ carr old new ds0 x = ds.take j ++ carr old new (ds.drop j) c ∧ m "carry" = some (.int c t2) ∧ m "row" = some (.ref l) ∧ m "out" = some (.ref out) ∧ m "old" = some (.int old ta) ∧ m "new" = some (.int new tb)) (by rfl) R1 (rsmall _ (by omega)) (rs_one _) F1 N1
      ⟨us, ds0, n, x, _, rfl, hus, rfl, (hk x (List.mem_of_getElem? hix)).1, h0s, by simp, rfl, rfl, rfl, rfl, rfl⟩ ?_ ?_
    · rintro j t3 m₁ nx h tk₁ own2 hj hoff2 hadr2 ⟨vs2, ds, n2, c, t2, rfl, hvs2, hdl, hc, hds, hcar, e1, e2, e3, e4, e5⟩ F₁ N₁
      have F₂ := fr_turn [("carry", .int c t2), ("row", .ref l), ("out", .ref out), ("old", .int old ta), ("new", .int new tb)] (by simp [e1, e2, e3, e4, e5]) F₁
      clear F1 N1 F₁
      k_steps
      rename Fr _ _ _ _ => F3
      rename News _ _ _ _ => N3
      simp only [List.cons_append, List.nil_append] at N3
      have hoth : ∀ p ∈ own ++ own2, p.1 ≠ out := by
        intro p hp
        rcases List.mem_append.mp hp with h1 | h1
        · exact hoff p h1 out (by simp)
        · exact hoff2 p h1 out (by simp)
      have hjt : (0 + (j : Int)).toNat = j := by omega
      refine ksa_set F3 N3 (.head hoth) hvs2 (by omega) (by omega) (by omega) ?_
      intro h9 F9 N9 hi9 hl9 hs9
      clear F3 N3
      k_steps
      rename Fr _ _ _ _ => F3
      rename News _ _ _ _ => N3
      have hq : 0 ≤ (c + ds.getD (0 + (j : Int)).toNat 0 * old) := by
        have := (getD_in hds (by omega : (0 + (j : Int)).toNat < ds.length)).1
        have := Int.mul_nonneg this ho.1
        omega
      have hnew : ∀ d ∈ ds.set (0 + (j : Int)).toNat ((c + ds.getD (0 + (j : Int)).toNat 0 * old).fmod new), 0 ≤ d ∧ d < new := mem_set_in hds (by rw [fmod_pos _ (by omega)]; exact emod_in (by omega))
      refine InvEndN.intro F3 N3 ⟨_, _, _, _, _, rfl, hi9, by rw [hl9, hdl], ?_, hnew, ?_, rfl, rfl, rfl, rfl, rfl⟩ rfl sub_a sub_b
      · rw [fdiv_pos _ (by omega)]
        exact Int.ediv_nonneg hq (by omega)
      · rw [hjt, take_set _ _ (by omega), drop_set, hcar, drop_at (by omega : j < ds.length), carr, fdiv_pos _ (by omega), fmod_pos _ (by omega), List.append_assoc]
        rfl
    · rintro m₁ nx h tk₁ ⟨vs2, ds, n2, c, t2, rfl, hvs2, hdl, hc, hds, hcar, e1, e2, e3, e4, e5⟩ F₁ N₁
      have F₂ := fr_pin [("carry", .int c t2), ("row", .ref l), ("out", .ref out), ("old", .int old ta), ("new", .int new tb)] (by simp [e1, e2, e3, e4, e5]) F₁
      clear F1 N1 F₁
      rw [← hdl, List.take_length, List.drop_length, carr] at hcar
      have hfin : List.foldl (carr old new) [] (ks.take (i + 1)) = ds ++ ledI new c := by rw [foldl_take _ _ hix, hds0, hcar]
      have hfl := hlen (i + 1)
      rw [hfin] at hfl ⊢
      k_steps
      refine Stop.out ?_
      refine While_inv2 (fun n m nw => ∃ vs3 ds3 n3 c3 t3, nw = (out, listOf vs3.toArray n3) :: own ∧ n = c3.toNat ∧ IntsAre vs3 ds3 ∧ 0 ≤ c3 ∧ ds ++ ledI new c = ds3 ++ ledI new c3 ∧ m "carry" = some (.int c3 t3) ∧ m "row" = some (.ref l) ∧ m "out" = some (.ref out) ∧ m "old" = some (.int old ta) ∧ m "new" = some (.int new tb)) F₂ N₁
        ⟨vs2, ds, n2, c, t2, rfl, rfl, hvs2, hc, rfl, rfl, rfl, rfl, rfl, rfl⟩ ?_ PassesOwn.never
      rintro n9 m₁ nw h₁ tk₁ F₁ N₁ ⟨vs3, ds3, n3, c3, t3, rfl, rfl, hvs3, hc3, hq3, e1, e2, e3, e4, e5⟩
      have F₂ := fr_pin [("carry", .int c3 t3), ("row", .ref l), ("out", .ref out), ("old", .int old ta), ("new", .int new tb)] (by simp [e1, e2, e3, e4, e5]) F₁
      clear F₁
      k_steps
      · rename Fr _ _ _ _ => F3
        have hoth : ∀ p ∈ own, p.1 ≠ out := fun p hp => hoff p hp out (by simp)
        have hl3 := congrArg List.length hq3
        rw [List.length_append, List.length_append] at hl3
        rw [List.length_append] at hfl
        have hl4 := hvs3.length
        refine append_K F3 N₁ (.head hoth) ?_ (by rw [List.size_toArray, sizeLine_eq]; omega)
        intro h9 F9 N9
        rw [List.push_toArray] at N9
        clear F3
        k_steps
        rename Fr _ _ _ _ => F3
        rename News _ _ _ _ => N3
        rename 0 < c3 => hpos
        have hdv : 0 ≤ c3.fdiv new ∧ (c3.fdiv new).toNat < c3.toNat := by
          rw [fdiv_pos _ (by omega)]
          have h1 := Int.ediv_nonneg hc3 (by omega : 0 ≤ new)
          have h2 : c3 / new < c3 := Int.ediv_lt_of_lt_mul (by omega) (by
            have : c3 * 2 ≤ c3 * new := Int.mul_le_mul_of_nonneg_left hn.1 hc3
            omega)
          omega
        refine ⟨_, _, _, _, _, rfl, F3, N3, hdv.2, _, _, _, _, _, rfl, rfl, hvs3.append (.cons _ _ .nil), hdv.1, ?_, rfl, rfl, rfl, rfl, rfl⟩
        rw [hq3, ledI_step hn.1 hpos, fdiv_pos _ (by omega), fmod_pos _ (by omega), List.append_assoc]
        rfl
      · rename ¬ 0 < c3 => hpos
        rw [ledI_zero (c := c3) (by omega), List.append_nil] at hq3
        refine InvEndN.intro F₂ N₁ ⟨vs3, n3, rfl, by rw [hq3]; exact hvs3, rfl, rfl, rfl, rfl⟩ rfl sub_d sub_c
  · rintro m₁ nx h tk₁ ⟨us, n, rfl, hus, e1, e2, e3, e4⟩ F₁ N₁
    have F₂ := fr_pin [("out", .ref out)] (by simp [e2]) F₁
    clear F1 N1 F₁
    rw [List.take_length] at hus
    have hz8 : us.length ≤ 5000 := by
      have h8 := hlen ks.length
      rw [List.take_length] at h8
      rw [hus.length]
      exact h8
    have hz9 : us.toArray.size ≤ 5000 := hz8
    k_steps
    rename Fr _ _ _ _ => F3
    rename News _ _ _ _ => N3
    rename IntsAre _ (List.reverse _) => hI
    exact hret _ _ _ _ _ ⟨_, _, _, rfl, rfl, hI⟩ F3 (news_sub N3 sub_d)
end Mine
-- HC2
namespace Mine
local macro_rules | `(tactic| walk_at "none") => `(tactic| fail)
local macro_rules | `(tactic| walk_at "none") => `(tactic| fail)
local macro_rules | `(tactic| walk_at "none") => `(tactic| fail)
local macro_rules | `(tactic| walk_at "none") => `(tactic| fail)
local macro_rules | `(tactic| walk_at "none") => `(tactic| fail)
local macro_rules | `(tactic| walk_at "none") => `(tactic| fail)
local macro_rules | `(tactic| walk_at "none") => `(tactic| fail)
local macro_rules | `(tactic| walk_at "none") => `(tactic| fail)
theorem fresh_walk_HC2 : True := by
 w_top off
 trivial
local macro_rules | `(tactic| walk1) => `(tactic| ((with_reducible show wpAny _ _ (exec (Stmt.While _ _ _ _) _) _ _ _); refine Stop.into ?_))
local macro_rules | `(tactic| walk1) => `(tactic| ((with_reducible show wpAny _ _ (exec (Stmt.For _ _ _ _ _) _) _ _ _); refine Stop.into ?_))
local macro_rules | `(tactic| walk1) => `(tactic| ((with_reducible show wpAny _ _ (pyIter _) _ _ _); refine Stop.into ?_))
local macro_rules | `(tactic| walk1) => `(tactic| ((with_reducible show wpAny _ _ (call (Value.ref _) _ _) _ _ _); refine Stop.into ?_))
local macro_rules | `(tactic| walk_at "getMethod bytes") => `(tactic| (with_reducible refine R.lstrip_method ?_))
local macro_rules | `(tactic| walk_at "getMethod bytes") => `(tactic| (with_reducible refine R.rstrip_method ?_))
local macro_rules | `(tactic| walk_at "getMethod str") => `(tactic| (with_reducible refine R.encode_method ?_))
local macro_rules | `(tactic| walk_at "call builtin:bytes.lstrip") => `(tactic| ((with_reducible show wpAny _ _ (call (Value.builtin "bytes.lstrip") [Value.bytes _ _, Value.bytes _ _]) _ _ _); (refine R.lstrip_call (by kba_ints2) (by kba_ints2) (by kba_size) ?_); intro _ _ _ hlst))
local macro_rules | `(tactic| walk_at "call builtin:bytes.rstrip") => `(tactic| ((with_reducible show wpAny _ _ (call (Value.builtin "bytes.rstrip") [Value.bytes _ _]) _ _ _); (refine R.rstrip_call (by kba_ints2) (by kba_size) ?_); intro _ _ _ hrst))
local macro_rules | `(tactic| walk_at "callWith ref") => `(tactic| (k_here; kfb_any; k_dflt (refine' R.fb_callWith ?hN ?hM ?ha ?_; (case hN => k_asm); (case hM => k_mem); (case ha => exact rfl); k_whole)))
local macro_rules | `(tactic| walk1) => `(tactic| ((with_reducible show wpAny _ _ (binaryOp Operator.Add (Value.bytes _ _) (Value.bytes _ _)) _ _ _); first | ((refine KBa.add_K (by kba_ints2) (by kba_ints2) (by ((try simp only [List.length_replicate, List.length_append, List.length_map, List.length_take, List.length_drop, List.length_cons, List.length_nil]); omega)) ?_); intro _ _ kbaApp) | (refine Stop.into ?_)))
theorem carried_b_ct (w : World) (b : Array UInt8) (t0 : Nat) (ks : List Int) (old new : Int) (ta tb : Nat) (hi : KBw.bInts b = ks) (hz : ks.length ≤ 200) (ho : 0 ≤ old ∧ old ≤ 256) (hn : 2 ≤ new ∧ new ≤ 256)
    (hlen : ∀ i, (List.foldl (carr old new) [] (ks.take i)).length ≤ 5000) :
    Ct (PySem.Challenge.rw_eg5003_01.row.prog) w (Mine.hd.heap_39 w.params) 81 5 (fun _ => True) [.bytes b t0, .int old ta, .int new tb] [] (fun v nw => ∃ r us n, v = .ref r ∧ nw = [(r, listOf us.toArray n)] ∧ IntsAre us (List.foldl (carr old new) [] ks).reverse) := by
  k_fill
  refine' Ct.of (by k_is) (by k_is) (fun s X => BindsTo.of_eq rfl) (locs rfl) rfl rfl rfl (by decide) (fun _ _ _ x => x) ?_
  intro p loose mean mg mb dp un gd outer A₀ base' g L s Q B F X N T hpre hd hu hret
  k_steps
  refine Stop.out ?_
  rename Fr _ _ _ _ => F1
  rename News _ _ _ _ => N1
  refine For_invVF F1 (by rfl) (by rfl) ?_
  k_steps
  refine Stop.out ?_
  rename Fr _ _ _ _ => F1
  rename News _ _ _ _ => N1
  refine name_addr N1 ?_
  intro out eo
  subst eo
  refine KBmo.iter_bytesN (fun i m nw => ∃ us n, nw = [(out, listOf us.toArray n)] ∧ IntsAre us (List.foldl (carr old new) [] (ks.take i)) ∧ m "row" = some (.bytes b t0) ∧ m "out" = some (.ref out) ∧ m "old" = some (.int old ta) ∧ m "new" = some (.int new tb)) hi (by rfl) F1 N1 ⟨[], 0, rfl, .nil, rfl, rfl, rfl, rfl⟩ ?_ ?_
  · rintro i x t m₁ nx h tk₁ own hix hx0 hx1 hoff ⟨us, n, rfl, hus, e1, e2, e3, e4⟩ F₁ N₁
    have F₂ := fr_turn [("row", .bytes b t0), ("out", .ref out), ("old", .int old ta), ("new", .int new tb)] (by simp [e1, e2, e3, e4]) F₁
    clear F1 N1 F₁
    k_steps
    refine Stop.out ?_
    rename Fr _ _ _ _ => F1
    rename News _ _ _ _ => N1
    have h0s : ∀ d ∈ List.foldl (carr old new) [] (ks.take i), 0 ≤ d ∧ d < new := by
      exact foldl_carr_in hn.1 _ _ (by simp)
    have h0z := hlen i
    generalize hds0 : List.foldl (carr old new) [] (ks.take i) = ds0 at hus h0s h0z
    refine For_invVF F1 (by rfl) (by rfl) ?_
    k_steps
    refine Stop.out ?_
    rename Fr _ _ _ _ => F1
    rename News _ _ _ _ => N1
    rename IsRange _ _ _ _ _ _ _ _ => R1
    refine iter_rangeN (n := ds0.length) (fun j m nw => ∃ vs2 ds n2 c t2, nw = (out, listOf vs2.toArray n2) :: own ∧ IntsAre vs2 ds ∧ ds.length = ds0.length ∧ 0 ≤ c ∧ (∀ d ∈ ds, 0 ≤ d ∧ d < new) ∧ carr old new ds0 x = ds.take j ++ carr old new (ds.drop j) c ∧ m "carry" = some (.int c t2) ∧ m "row" = some (.bytes b t0) ∧ m "out" = some (.ref out) ∧ m "old" = some (.int old ta) ∧ m "new" = some (.int new tb)) (by rfl) R1 (rsmall _ (by omega)) (rs_one _) F1 N1
      ⟨us, ds0, n, x, _, rfl, hus, rfl, hx0, h0s, by simp, rfl, rfl, rfl, rfl, rfl⟩ ?_ ?_
    · rintro j t3 m₁ nx h tk₁ own2 hj hoff2 hadr2 ⟨vs2, ds, n2, c, t2, rfl, hvs2, hdl, hc, hds, hcar, e1, e2, e3, e4, e5⟩ F₁ N₁
      have F₂ := fr_turn [("carry", .int c t2), ("row", .bytes b t0), ("out", .ref out), ("old", .int old ta), ("new", .int new tb)] (by simp [e1, e2, e3, e4, e5]) F₁
      clear F1 N1 F₁
      k_steps
      rename Fr _ _ _ _ => F3
      rename News _ _ _ _ => N3
      simp only [List.cons_append, List.nil_append] at N3
      have hoth : ∀ p ∈ own ++ own2, p.1 ≠ out := by
        intro p hp
        rcases List.mem_append.mp hp with h1 | h1
        · exact hoff p h1 out (by simp)
        · exact hoff2 p h1 out (by simp)
      have hjt : (0 + (j : Int)).toNat = j := by omega
      refine ksa_set F3 N3 (.head hoth) hvs2 (by omega) (by omega) (by omega) ?_
      intro h9 F9 N9 hi9 hl9 hs9
      clear F3 N3
      k_steps
      rename Fr _ _ _ _ => F3
      rename News _ _ _ _ => N3
      have hq : 0 ≤ (c + ds.getD (0 + (j : Int)).toNat 0 * old) := by
        have := (getD_in hds (by omega : (0 + (j : Int)).toNat < ds.length)).1
        have := Int.mul_nonneg this ho.1
        omega
      have hnew : ∀ d ∈ ds.set (0 + (j : Int)).toNat ((c + ds.getD (0 + (j : Int)).toNat 0 * old).fmod new), 0 ≤ d ∧ d < new := mem_set_in hds (by rw [fmod_pos _ (by omega)]; exact emod_in (by omega))
      refine InvEndN.intro F3 N3 ⟨_, _, _, _, _, rfl, hi9, by rw [hl9, hdl], ?_, hnew, ?_, rfl, rfl, rfl, rfl, rfl⟩ rfl sub_a sub_b
      · rw [fdiv_pos _ (by omega)]
        exact Int.ediv_nonneg hq (by omega)
      · rw [hjt, take_set _ _ (by omega), drop_set, hcar, drop_at (by omega : j < ds.length), carr, fdiv_pos _ (by omega), fmod_pos _ (by omega), List.append_assoc]
        rfl
    · rintro m₁ nx h tk₁ ⟨vs2, ds, n2, c, t2, rfl, hvs2, hdl, hc, hds, hcar, e1, e2, e3, e4, e5⟩ F₁ N₁
      have F₂ := fr_pin [("carry", .int c t2), ("row", .bytes b t0), ("out", .ref out), ("old", .int old ta), ("new", .int new tb)] (by simp [e1, e2, e3, e4, e5]) F₁
      clear F1 N1 F₁
      rw [← hdl, List.take_length, List.drop_length, carr] at hcar
      have hfin : List.foldl (carr old new) [] (ks.take (i + 1)) = ds ++ ledI new c := by rw [foldl_take _ _ hix, hds0, hcar]
      have hfl := hlen (i + 1)
      rw [hfin] at hfl ⊢
      k_steps
      refine Stop.out ?_
      refine While_inv2 (fun n m nw => ∃ vs3 ds3 n3 c3 t3, nw = (out, listOf vs3.toArray n3) :: own ∧ n = c3.toNat ∧ IntsAre vs3 ds3 ∧ 0 ≤ c3 ∧ ds ++ ledI new c = ds3 ++ ledI new c3 ∧ m "carry" = some (.int c3 t3) ∧ m "row" = some (.bytes b t0) ∧ m "out" = some (.ref out) ∧ m "old" = some (.int old ta) ∧ m "new" = some (.int new tb)) F₂ N₁
        ⟨vs2, ds, n2, c, t2, rfl, rfl, hvs2, hc, rfl, rfl, rfl, rfl, rfl, rfl⟩ ?_ PassesOwn.never
      rintro n9 m₁ nw h₁ tk₁ F₁ N₁ ⟨vs3, ds3, n3, c3, t3, rfl, rfl, hvs3, hc3, hq3, e1, e2, e3, e4, e5⟩
      have F₂ := fr_pin [("carry", .int c3 t3), ("row", .bytes b t0), ("out", .ref out), ("old", .int old ta), ("new", .int new tb)] (by simp [e1, e2, e3, e4, e5]) F₁
      clear F₁
      k_steps
      · rename Fr _ _ _ _ => F3
        have hoth : ∀ p ∈ own, p.1 ≠ out := fun p hp => hoff p hp out (by simp)
        have hl3 := congrArg List.length hq3
        rw [List.length_append, List.length_append] at hl3
        rw [List.length_append] at hfl
        have hl4 := hvs3.length
        refine append_K F3 N₁ (.head hoth) ?_ (by rw [List.size_toArray, sizeLine_eq]; omega)
        intro h9 F9 N9
        rw [List.push_toArray] at N9
        clear F3
        k_steps
        rename Fr _ _ _ _ => F3
        rename News _ _ _ _ => N3
        rename 0 < c3 => hpos
        have hdv : 0 ≤ c3.fdiv new ∧ (c3.fdiv new).toNat < c3.toNat := by
          rw [fdiv_pos _ (by omega)]
          have h1 := Int.ediv_nonneg hc3 (by omega : 0 ≤ new)
          have h2 : c3 / new < c3 := Int.ediv_lt_of_lt_mul (by omega) (by
            have : c3 * 2 ≤ c3 * new := Int.mul_le_mul_of_nonneg_left hn.1 hc3
            omega)
          omega
        refine ⟨_, _, _, _, _, rfl, F3, N3, hdv.2, _, _, _, _, _, rfl, rfl, hvs3.append (.cons _ _ .nil), hdv.1, ?_, rfl, rfl, rfl, rfl, rfl⟩
        rw [hq3, ledI_step hn.1 hpos, fdiv_pos _ (by omega), fmod_pos _ (by omega), List.append_assoc]
        rfl
      · rename ¬ 0 < c3 => hpos
        rw [ledI_zero (c := c3) (by omega), List.append_nil] at hq3
        refine InvEndN.intro F₂ N₁ ⟨vs3, n3, rfl, by rw [hq3]; exact hvs3, rfl, rfl, rfl, rfl⟩ rfl sub_d sub_c
  · rintro m₁ nx h tk₁ ⟨us, n, rfl, hus, e1, e2, e3, e4⟩ F₁ N₁
    have F₂ := fr_pin [("out", .ref out)] (by simp [e2]) F₁
    clear F1 N1 F₁
    rw [List.take_length] at hus
    have hz8 : us.length ≤ 5000 := by
      have h8 := hlen ks.length
      rw [List.take_length] at h8
      rw [hus.length]
      exact h8
    have hz9 : us.toArray.size ≤ 5000 := hz8
    k_steps
    rename Fr _ _ _ _ => F3
    rename News _ _ _ _ => N3
    rename IntsAre _ (List.reverse _) => hI
    exact hret _ _ _ _ _ ⟨_, _, _, rfl, rfl, hI⟩ F3 (news_sub N3 sub_d)
end Mine
-- Q1
namespace Mine
theorem dig_zero (b : Nat) : dig b 0 = [] := by
  rw [dig, dif_neg (by simp)]
theorem dig_step {b n : Nat} (hb : 2 ≤ b) (hn : n ≠ 0) : dig b n = dig b (n / b) ++ [n % b] := by
  rw [dig, dif_pos ⟨hb, hn⟩]
theorem dig_lt {b : Nat} (hb : 2 ≤ b) : ∀ n, ∀ d ∈ dig b n, d < b := by
  intro n
  induction n using Nat.strongRecOn with
  | ind n ih =>
    intro d hd
    by_cases hn : n = 0
    · subst hn
      rw [dig_zero] at hd
      cases hd
    · rw [dig_step hb hn] at hd
      rcases List.mem_append.mp hd with hd | hd
      · exact ih _ (Nat.div_lt_self (by omega) (by omega)) d hd
      · rw [List.mem_singleton.mp hd]
        exact Nat.mod_lt _ (by omega)
theorem dig_len {b : Nat} (hb : 2 ≤ b) : ∀ k n, n < 2 ^ k → (dig b n).length ≤ k := by
  intro k
  induction k with
  | zero =>
    intro n hn
    have : n = 0 := by simpa using hn
    subst this
    rw [dig_zero]
    simp
  | succ k ih =>
    intro n hn
    by_cases h0 : n = 0
    · subst h0
      rw [dig_zero]
      simp
    · rw [dig_step hb h0, List.length_append, List.length_singleton]
      have h1 : n / b ≤ n / 2 := Nat.div_le_div_left hb (by omega)
      have h2 : n / b < 2 ^ k := by
        rw [Nat.pow_succ] at hn
        omega
      have := ih _ h2
      omega
theorem digNum_snoc (ks : List Int) (k b : Int) : digNum (ks ++ [k]) b = digNum ks b * b + k := by
  unfold digNum
  rw [List.foldl_append]
  rfl
theorem dig_num {b : Nat} (hb : 2 ≤ b) : ∀ n : Nat, digNum ((dig b n).map fun d : Nat => (d : Int)) (b : Int) = (n : Int) := by
  intro n
  induction n using Nat.strongRecOn with
  | ind n ih =>
    by_cases hn : n = 0
    · subst hn
      rw [dig_zero]
      rfl
    · rw [dig_step hb hn, List.map_append, List.map_cons, List.map_nil, digNum_snoc, ih _ (Nat.div_lt_self (by omega) (by omega))]
      have := Nat.div_add_mod n b
      have h2 : (n : Int) = (b : Int) * ((n / b : Nat) : Int) + ((n % b : Nat) : Int) := by exact_mod_cast this.symm
      rw [h2, Int.mul_comm]
theorem dig_head {b : Nat} (hb : 2 ≤ b) : ∀ n : Nat, ∀ x r, dig b n = x :: r → x ≠ 0 := by
  intro n
  induction n using Nat.strongRecOn with
  | ind n ih =>
    intro x r e
    by_cases hn : n = 0
    · subst hn
      rw [dig_zero] at e
      cases e
    · rw [dig_step hb hn] at e
      by_cases hq : n / b = 0
      · rw [hq, dig_zero, List.nil_append] at e
        have e1 := (List.cons.inj e).1
        have : n % b = n := Nat.mod_eq_of_lt (by
          rcases Nat.div_eq_zero_iff.mp hq with h | h
          · omega
          · exact h)
        omega
      · cases hd : dig b (n / b) with
        | nil =>
          have := dig_num hb (n / b)
          rw [hd] at this
          simp [digNum] at this
          omega
        | cons y t =>
          rw [hd, List.cons_append] at e
          have e1 := (List.cons.inj e).1
          rw [← e1]
          exact ih _ (Nat.div_lt_self (by omega) (by omega)) y t hd
/-- the rank of a sign -/
def rk (ss : List Int) (x : Int) : Int := kdfLook (R.invI ss ss.length) x 0
theorem rk_get {ss : List Int} (hd : ss.Nodup) {i : Nat} (hi : i < ss.length) : rk ss (ss.getD i 0) = (i : Int) := inv_look hd (Nat.le_refl _) hi
theorem encI_mem {ss : List Int} (h2 : 2 ≤ ss.length) {n : Int} : ∀ x ∈ encI ss n, x ∈ ss := by
  intro x hx
  unfold encI at hx
  obtain ⟨d, hd, rfl⟩ := List.mem_map.mp hx
  have hlt := dig_lt h2 _ d hd
  rw [List.getD_eq_getElem?_getD, List.getElem?_eq_getElem hlt]
  exact List.getElem_mem hlt
theorem encI_rk {ss : List Int} (hnd : ss.Nodup) (h2 : 2 ≤ ss.length) (n : Int) : (encI ss n).map (rk ss) = (dig ss.length n.toNat).map fun d : Nat => (d : Int) := by
  unfold encI
  rw [List.map_map]
  refine List.map_congr_left fun d hd => ?_
  exact rk_get hnd (dig_lt h2 _ d hd)
theorem encI_num {ss : List Int} (hnd : ss.Nodup) (h2 : 2 ≤ ss.length) {n : Int} (hn : 0 ≤ n) : digNum ((encI ss n).map (rk ss)) (ss.length : Int) = n := by
  rw [encI_rk hnd h2, dig_num h2, Int.toNat_of_nonneg hn]
theorem rk_first {ss : List Int} (hnd : ss.Nodup) (h2 : 2 ≤ ss.length) : rk ss (ss.getD 0 0) = 0 := rk_get hnd (by omega)
theorem digNum_zeros (z : Nat) (ks : List Int) (b : Int) : digNum (List.replicate z 0 ++ ks) b = digNum ks b := by
  induction z with
  | zero => rfl
  | succ z ih => rw [List.replicate_succ, List.cons_append, digNum_cons, Int.zero_mul, Int.zero_add, ih]
theorem encI_len {ss : List Int} (h2 : 2 ≤ ss.length) {n : Int} {k : Nat} (h0 : 0 ≤ n) (h : n < 2 ^ k) : (encI ss n).length ≤ k := by
  unfold encI
  rw [List.length_map]
  refine dig_len h2 k _ ?_
  have : ((n.toNat : Nat) : Int) < ((2 ^ k : Nat) : Int) := by
    rw [Int.toNat_of_nonneg h0]
    exact_mod_cast h
  exact_mod_cast this
theorem digNum_lt {b : Int} (hb : 1 ≤ b) : ∀ {ks : List Int}, (∀ k ∈ ks, 0 ≤ k ∧ k < b) → digNum ks b < b ^ ks.length
  | [], _ => by show (0 : Int) < b ^ 0; rw [Int.pow_zero]; omega
  | k :: r, h => by
    have ih := digNum_lt hb (ks := r) fun x hx => h x (.tail _ hx)
    have hk := h k (.head _)
    rw [digNum_cons, List.length_cons, Int.pow_succ]
    have h1 : k * b ^ r.length ≤ (b - 1) * b ^ r.length := Int.mul_le_mul_of_nonneg_right (by omega) (Int.pow_nonneg (by omega))
    have h2 : (b - 1) * b ^ r.length = b ^ r.length * b - b ^ r.length := by
      rw [Int.sub_mul, Int.one_mul, Int.mul_comm]
    omega
theorem invI_length {ks : List Int} (hd : ks.Nodup) : ∀ {n : Nat}, n ≤ ks.length → (R.invI ks n).length = n
  | 0, _ => rfl
  | n + 1, h => by
    have hn : n < ks.length := h
    have ih := invI_length hd (n := n) (Nat.le_of_lt hn)
    have hnot : ¬ kdfHas (R.invI ks n) (ks.getD n 0) = true := by
      intro hh
      have hm := (inv_has (Nat.le_of_lt hn)).mp hh
      obtain ⟨i, hi, e⟩ := List.getElem_of_mem hm
      rw [List.length_take] at hi
      have hin : i < ks.length := by omega
      rw [List.getElem_take, List.getD_eq_getElem?_getD, List.getElem?_eq_getElem hn] at e
      have := nodup_inj hd hin hn e
      omega
    show (kdfPut (R.invI ks n) (ks.getD n 0) (n : Int)).length = n + 1
    unfold kdfPut
    unfold kdfHas at hnot
    rw [if_neg hnot, List.length_append, ih]
    rfl
theorem rk_in {ss : List Int} (hnd : ss.Nodup) {x : Int} (hx : x ∈ ss) : 0 ≤ rk ss x ∧ rk ss x < (ss.length : Int) := by
  obtain ⟨i, hi, e⟩ := List.getElem_of_mem hx
  have : x = ss.getD i 0 := by rw [List.getD_eq_getElem?_getD, List.getElem?_eq_getElem hi]; exact e.symm
  rw [this, rk_get hnd hi]
  omega
theorem nough_split : ∀ (ks : List Int), List.replicate (nough ks) 0 ++ ks.drop (nough ks) = ks
  | [] => rfl
  | k :: r => by
    by_cases h : k = 0
    · subst h
      rw [nough_zero, List.replicate_succ, List.drop_succ_cons, List.cons_append, nough_split r]
    · rw [nough_pos h]
      rfl
theorem drop_nough_head : ∀ (ks : List Int) (x : Int) (r : List Int), ks.drop (nough ks) = x :: r → x ≠ 0
  | [], _, _, e => by cases e
  | k :: t, x, r, e => by
    by_cases h : k = 0
    · subst h
      rw [nough_zero, List.drop_succ_cons] at e
      exact drop_nough_head t x r e
    · rw [nough_pos h, List.drop_zero] at e
      rw [← (List.cons.inj e).1]
      exact h
theorem digNum_pos {b : Int} (hb : 1 ≤ b) {x : Int} {r : List Int} (h : ∀ k ∈ x :: r, 0 ≤ k) (hx : x ≠ 0) : 0 < digNum (x :: r) b := by
  rw [digNum_cons]
  have h0 := h x (.head _)
  have h1 : 1 * b ^ r.length ≤ x * b ^ r.length := Int.mul_le_mul_of_nonneg_right (by omega) (Int.pow_nonneg (by omega))
  have h2 : 0 < b ^ r.length := Int.pow_pos (by omega)
  have h3 := digNum_nonneg (base := b) (by omega) (ks := r) fun k hk => h k (.tail _ hk)
  omega
theorem led_num {b : Int} (hb : 2 ≤ b) : ∀ (n : Nat) (ks : List Int), ks.length = n → (∀ k ∈ ks, 0 ≤ k ∧ k < b) → (∀ x r, ks = x :: r → x ≠ 0) → (ledI b (digNum ks b)).reverse = ks
  | 0, ks, hl, _, _ => by
    have : ks = [] := List.length_eq_zero_iff.mp hl
    subst this
    show (ledI b 0).reverse = []
    rw [ledI_zero (Int.le_refl _)]
    rfl
  | n + 1, ks, hl, hin, hhd => by
    have hne : ks ≠ [] := by
      intro e
      rw [e] at hl
      cases hl
    obtain ⟨is, k, rfl⟩ : ∃ is k, ks = is ++ [k] := ⟨ks.dropLast, ks.getLast hne, (List.dropLast_concat_getLast hne).symm⟩
    have hk := hin k (by simp)
    have his : ∀ x ∈ is, 0 ≤ x ∧ x < b := fun x hx => hin x (List.mem_append_left _ hx)
    have hv := digNum_nonneg (base := b) (by omega) (ks := is) fun x hx => (his x hx).1
    have hhi : ∀ x r, is = x :: r → x ≠ 0 := fun x r e => hhd x (r ++ [k]) (by rw [e]; rfl)
    have ih := led_num hb n is (by rw [List.length_append, List.length_singleton] at hl; omega) his hhi
    have hpos : 0 < digNum is b * b + k := by
      cases e : is with
      | nil =>
        have := hhd k [] (by rw [e]; rfl)
        show 0 < (0 : Int) * b + k
        omega
      | cons x r =>
        have h1 := digNum_pos (b := b) (by omega) (x := x) (r := r) (fun y hy => (his y (e ▸ hy)).1) (hhi x r e)
        have := Int.mul_pos h1 (show 0 < b by omega)
        omega
    have e1 : (digNum is b * b + k) % b = k := by
      rw [Int.add_comm, Int.add_mul_emod_self_right]
      exact Int.emod_eq_of_lt hk.1 hk.2
    have e2 : (digNum is b * b + k) / b = digNum is b := by
      rw [Int.add_comm, Int.add_mul_ediv_right _ _ (by omega), Int.ediv_eq_zero_of_lt hk.1 hk.2, Int.zero_add]
    rw [digNum_snoc, ledI_step hb hpos, e1, e2, List.reverse_cons, ih]
theorem led_back {ms : List Int} (h : ∀ d ∈ ms, 0 ≤ d ∧ d < 256) : List.replicate (nough ms) 0 ++ (ledI 256 (digNum ms 256)).reverse = ms := by
  rw [← digNum_drop 256 ms, led_num (by decide) _ _ rfl (fun k hk => h k (List.mem_of_mem_drop hk)) (drop_nough_head ms), nough_split]
theorem lead_rep (c : Int) (E : List Int) (hE : ∀ x r, E = x :: r → x ≠ c) : ∀ z, lead c (List.replicate z c ++ E) = z
  | 0 => by
    cases E with
    | nil => rfl
    | cons x r =>
      have := hE x r rfl
      simp [lead, this]
  | z + 1 => by
    rw [List.replicate_succ, List.cons_append]
    have h1 : lead c (c :: (List.replicate z c ++ E)) = lead c (List.replicate z c ++ E) + 1 := by simp [lead]
    rw [h1, lead_rep c E hE z]
theorem encI_head {ss : List Int} (hnd : ss.Nodup) (h2 : 2 ≤ ss.length) (n : Int) : ∀ x r, encI ss n = x :: r → x ≠ ss.getD 0 0 := by
  intro x r e hx
  have h1 := encI_rk hnd h2 n
  rw [e, List.map_cons, hx, rk_first hnd h2] at h1
  cases hd : dig ss.length n.toNat with
  | nil => rw [hd] at h1; cases h1
  | cons y t =>
    rw [hd, List.map_cons] at h1
    have := dig_head h2 _ y t hd
    have h3 := (List.cons.inj h1).1
    omega
def encT (ss ms : List Int) : List Int := List.replicate (nough ms) (ss.getD 0 0) ++ encI ss (digNum ms 256)
section
variable {ss ms : List Int} (hnd : ss.Nodup) (h2 : 2 ≤ ss.length)
include hnd h2
theorem first_mem : ss.getD 0 0 ∈ ss := by
  have h0 : 0 < ss.length := by omega
  rw [List.getD_eq_getElem?_getD, List.getElem?_eq_getElem h0]
  exact List.getElem_mem h0
theorem encT_mem : ∀ x ∈ encT ss ms, x ∈ ss := by
  intro x hx
  rcases List.mem_append.mp hx with h | h
  · rw [List.eq_of_mem_replicate h]
    exact first_mem hnd h2
  · exact encI_mem h2 x h
theorem encT_rk : (encT ss ms).map (rk ss) = List.replicate (nough ms) 0 ++ (encI ss (digNum ms 256)).map (rk ss) := by
  unfold encT
  rw [List.map_append, List.map_replicate, rk_first hnd h2]
theorem encT_take : ((encT ss ms).map (rk ss)).take (nough ms) = List.replicate (nough ms) 0 := by
  rw [encT_rk hnd h2, List.take_append_of_le_length (by rw [List.length_replicate]; exact Nat.le_refl _), List.take_of_length_le (by rw [List.length_replicate]; exact Nat.le_refl _)]
theorem encT_drop : ((encT ss ms).map (rk ss)).drop (nough ms) = (encI ss (digNum ms 256)).map (rk ss) := by
  rw [encT_rk hnd h2, List.drop_append_of_le_length (by rw [List.length_replicate]; exact Nat.le_refl _), List.drop_of_length_le (by rw [List.length_replicate]; exact Nat.le_refl _), List.nil_append]
theorem encI_rk_head (n : Int) : ∀ x r, (encI ss n).map (rk ss) = x :: r → x ≠ 0 := by
  intro x r e
  rw [encI_rk hnd h2] at e
  cases hd : dig ss.length n.toNat with
  | nil => rw [hd] at e; cases e
  | cons y t =>
    rw [hd, List.map_cons] at e
    have := dig_head h2 _ y t hd
    have h3 := (List.cons.inj e).1
    omega
theorem encT_lead : lead (ss.getD 0 0) (encT ss ms) = nough ms := lead_rep _ _ (encI_head hnd h2 _) _
theorem encT_rank (h : ∀ d ∈ ms, 0 ≤ d) : rankNum ss (encT ss ms) = digNum ms 256 := by
  show digNum ((encT ss ms).map (rk ss)) (ss.length : Int) = _
  rw [encT_rk hnd h2, digNum_zeros, encI_num hnd h2 (digNum_nonneg (by decide) h)]
theorem encI_rank {n : Int} (h : 0 ≤ n) : rankNum ss (encI ss n) = n := encI_num hnd h2 h
theorem encT_rest : (encT ss ms).drop (nough ms) = encI ss (digNum ms 256) := by
  unfold encT
  rw [List.drop_append_of_le_length (by rw [List.length_replicate]; exact Nat.le_refl _), List.drop_of_length_le (by rw [List.length_replicate]; exact Nat.le_refl _), List.nil_append]
end
end Mine
-- HS
namespace Mine
local macro_rules | `(tactic| walk_at "none") => `(tactic| fail)
local macro_rules | `(tactic| walk_at "none") => `(tactic| fail)
local macro_rules | `(tactic| walk_at "none") => `(tactic| fail)
local macro_rules | `(tactic| walk_at "none") => `(tactic| fail)
local macro_rules | `(tactic| walk_at "none") => `(tactic| fail)
local macro_rules | `(tactic| walk_at "none") => `(tactic| fail)
local macro_rules | `(tactic| walk_at "none") => `(tactic| fail)
theorem fresh_walk_HS : True := by
 w_top off
 trivial
local macro_rules | `(tactic| walk1) => `(tactic| ((with_reducible show wpAny _ _ (exec (Stmt.While _ _ _ _) _) _ _ _); refine Stop.into ?_))
local macro_rules | `(tactic| walk1) => `(tactic| ((with_reducible show wpAny _ _ (exec (Stmt.For _ _ _ _ _) _) _ _ _); refine Stop.into ?_))
local macro_rules | `(tactic| walk1) => `(tactic| ((with_reducible show wpAny _ _ (pyIter _) _ _ _); refine Stop.into ?_))
local macro_rules | `(tactic| walk1) => `(tactic| ((with_reducible show wpAny _ _ (call (Value.ref _) _ _) _ _ _); refine Stop.into ?_))
local macro_rules | `(tactic| walk_at "getMethod bytes") => `(tactic| (with_reducible refine R.lstrip_method ?_))
local macro_rules | `(tactic| walk_at "getMethod bytes") => `(tactic| (with_reducible refine R.rstrip_method ?_))
local macro_rules | `(tactic| walk_at "getMethod str") => `(tactic| (with_reducible refine R.encode_method ?_))
local macro_rules | `(tactic| walk_at "call builtin:bytes.lstrip") => `(tactic| ((with_reducible show wpAny _ _ (call (Value.builtin "bytes.lstrip") [Value.bytes _ _, Value.bytes _ _]) _ _ _); (refine R.lstrip_call (by kba_ints2) (by kba_ints2) (by kba_size) ?_); intro _ _ _ hlst))
local macro_rules | `(tactic| walk_at "call builtin:bytes.rstrip") => `(tactic| ((with_reducible show wpAny _ _ (call (Value.builtin "bytes.rstrip") [Value.bytes _ _]) _ _ _); (refine R.rstrip_call (by kba_ints2) (by kba_size) ?_); intro _ _ _ hrst))
local macro_rules | `(tactic| walk_at "callWith ref") => `(tactic| (k_here; kfb_any; k_dflt (refine' R.fb_callWith ?hN ?hM ?ha ?_; (case hN => k_asm); (case hM => k_mem); (case ha => exact rfl); k_whole)))
local macro_rules | `(tactic| walk1) => `(tactic| ((with_reducible show wpAny _ _ (binaryOp Operator.Add (Value.bytes _ _) (Value.bytes _ _)) _ _ _); first | ((refine KBa.add_K (by kba_ints2) (by kba_ints2) (by ((try simp only [List.length_replicate, List.length_append, List.length_map, List.length_take, List.length_drop, List.length_cons, List.length_nil]); omega)) ?_); intro _ _ kbaApp) | (refine Stop.into ?_)))
local macro_rules | `(tactic| walk1) => `(tactic| ((with_reducible show wpAny _ _ (exec (Stmt.Assign _ (PySem.Expr.DictComp _ _ _ _ _) _) _) _ _ _); refine Stop.into ?_))
local macro_rules | `(tactic| walk1) => `(tactic| ((with_reducible show wpAny _ _ (call (Value.type "enumerate") _ _) _ _ _); refine Stop.into ?_))
local macro_rules | `(tactic| walk1) => `(tactic| ((with_reducible show wpAny _ _ (exec (Stmt.Assign [PySem.Expr.Name ("place" : PySem.Str) _] _ _) _) _ _ _); (fail_if_success (with_reducible rename Stop True => jm)); refine Stop.into ?_))
local macro_rules | `(tactic| walk1) => `(tactic| ((with_reducible show wpAny _ _ (exec (Stmt.Assign [PySem.Expr.Name ("row" : PySem.Str) _] (PySem.Expr.BinOp _ _ _ _) _) _) _ _ _); (fail_if_success (with_reducible rename Stop True => jm)); refine Stop.into ?_))
local macro_rules | `(tactic| walk1) => `(tactic| ((with_reducible show wpAny _ _ (exec (Stmt.If _ _ _ _) _) _ _ _); (fail_if_success (with_reducible rename Stop True => jm)); refine Stop.into ?_))
local macro_rules | `(tactic| walk_at "subscriptTail Name Slice ref ref") => `(tactic| (k_here; (with_reducible show wpAny _ _ (subscriptTail _ (PySem.Expr.Slice none (some _) none _) (Value.ref _) (Value.ref _)) _ _ _); k_dflt (refine R.slice_to (by k_asm) (by k_asm) (by kmk_list) (by l_ints) (by omega) (by ((try simp only [List.length_append, List.length_take, List.length_drop, List.length_cons, List.length_nil]); omega)) ?_ (by with_unfolding_all rfl) (by kmk_pure)); intro D' ws' h' F' N' l1 hI'; (try k_lt l1); (try k_sweep)))
local macro_rules | `(tactic| walk_at "subscriptTail Name Slice ref ref") => `(tactic| (k_here; (with_reducible show wpAny _ _ (subscriptTail _ (PySem.Expr.Slice (some _) none none _) (Value.ref _) (Value.ref _)) _ _ _); k_dflt (refine R.slice_from (by k_asm) (by k_asm) (by kmk_list) (by l_ints) (by omega) (by ((try simp only [List.length_append, List.length_take, List.length_drop, List.length_cons, List.length_nil]); omega)) ?_ (by with_unfolding_all rfl) (by kmk_pure)); intro D' ws' h' F' N' l1 hI'; (try k_lt l1); (try k_sweep)))
theorem join_int {M : Model} {A : Around} {E : Value → Shared → Prop} {s : Shared} {env : Env} {h₀ : Heap} {L : Addr} {st : Stmt} {m : PySem.Str → Option Value} {news : List (Addr × Obj)} {Q : Flow → Shared → Prop} (x : PySem.Str) (P : Int → Prop) (ps : List (PySem.Str × Value)) (_F : Fr h₀ L s.heap m) (_N : News h₀ L s.heap news)
    (first : wpAny M A (exec st env) (fun f s' => Stop (f = Flow.next ∧ ∃ (h : Heap) (tk : Nat) (q : Int) (t : Tok) (m' : PySem.Str → Option Value), s' = { s with heap := h, toks := tk } ∧ P q ∧ Fr h₀ L h m' ∧ m' x = some (.int q t) ∧ (∀ p ∈ ps, m' p.1 = some p.2) ∧ News h₀ L h news)) E s)
    (rest : ∀ h tk q t m', P q → Fr h₀ L h (kstB m' ((x, .int q t) :: ps)) → News h₀ L h news → Q .next { s with heap := h, toks := tk }) : wpAny M A (exec st env) Q E s :=
  wpAny_mono first (fun f s' hm => by
    obtain ⟨rfl, h, tk, q, t, m', rfl, hp, F, hx, hps, N⟩ := hm
    refine rest h tk q t m' hp (fr_pin _ (fun r hr => ?_) F) N
    rcases List.mem_cons.mp hr with rfl | hr
    · exact hx
    · exact hps r hr) fun _ _ e => e
theorem join_row {M : Model} {A : Around} {E : Value → Shared → Prop} {s : Shared} {env : Env} {h₀ : Heap} {L : Addr} {st : Stmt} {m : PySem.Str → Option Value} {news keep : List (Addr × Obj)} {Q : Flow → Shared → Prop} (x : PySem.Str) (ms : List Int) (ps : List (PySem.Str × Value)) (_F : Fr h₀ L s.heap m) (_N : News h₀ L s.heap news)
    (first : wpAny M A (exec st env) (fun f s' => Stop (f = Flow.next ∧ ∃ (h : Heap) (tk : Nat) (D : Addr) (us : List Value) (n : Nat) (m' : PySem.Str → Option Value), s' = { s with heap := h, toks := tk } ∧ IntsAre us ms ∧ Fr h₀ L h m' ∧ m' x = some (.ref D) ∧ (∀ p ∈ ps, m' p.1 = some p.2) ∧ News h₀ L h ((D, listOf us.toArray n) :: keep))) E s)
    (rest : ∀ h tk D us n m', IntsAre us ms → Fr h₀ L h (kstB m' ((x, .ref D) :: ps)) → News h₀ L h ((D, listOf us.toArray n) :: keep) → Q .next { s with heap := h, toks := tk }) : wpAny M A (exec st env) Q E s :=
  wpAny_mono first (fun f s' hm => by
    obtain ⟨rfl, h, tk, D, us, n, m', rfl, hi, F, hx, hps, N⟩ := hm
    refine rest h tk D us n m' hi (fr_pin _ (fun r hr => ?_) F) N
    rcases List.mem_cons.mp hr with rfl | hr
    · exact hx
    · exact hps r hr) fun _ _ e => e
theorem news_third {h₀ h : Heap} {L : Addr} {a b c : Addr × Obj} {r : List (Addr × Obj)} (N : News h₀ L h (a :: b :: c :: r)) : News h₀ L h (a :: c :: r) := news_sub N fun p hp => by
  rcases List.mem_cons.mp hp with rfl | hp
  · exact .head _
  · exact .tail _ (.tail _ hp)
def sigR (a0 a1 a2 : Int) : List Int := (rangeKs 0 (2 + a0 % 40).toNat).map fun k => 38 + (a1 % 89 + (1 + a2 % 88) * k) % 89
def insAt (row : List Int) (p x : Int) : List Int := row.take p.toNat ++ x :: row.drop p.toNat
def sigS (a0 a1 a2 a3 : Int) : List Int := insAt (sigR a0 a1 a2) (if a3 % 3 = 0 then 0 else a3 % ((sigR a0 a1 a2).length + 1 : Nat)) 32
def sigs (a0 a1 a2 a3 a4 : Int) : List Int := if a4 % 3 = 0 then insAt (sigS a0 a1 a2 a3) (a4 % ((sigS a0 a1 a2 a3).length + 1 : Nat)) 9 else sigS a0 a1 a2 a3
theorem sigR_len (a0 a1 a2 : Int) : 2 ≤ (sigR a0 a1 a2).length ∧ (sigR a0 a1 a2).length ≤ 41 := by
  have h2 := emod_in (a := a0) (show (0 : Int) < 40 by decide)
  unfold sigR
  rw [List.length_map, rangeKs_length]
  omega
theorem sigR_in (a0 a1 a2 : Int) : ∀ d ∈ sigR a0 a1 a2, 38 ≤ d ∧ d ≤ 126 := by
  intro d hd
  unfold sigR at hd
  obtain ⟨x, _, rfl⟩ := List.mem_map.mp hd
  have h3 := emod_in (a := a1 % 89 + (1 + a2 % 88) * x) (show (0 : Int) < 89 by decide)
  omega
theorem insAt_in {P : Int → Prop} {row : List Int} {p x : Int} (h : ∀ d ∈ row, P d) (hx : P x) : ∀ d ∈ insAt row p x, P d := by
  intro d hd
  unfold insAt at hd
  rcases List.mem_append.mp hd with hd | hd
  · exact h d (List.mem_of_mem_take hd)
  · rcases List.mem_cons.mp hd with rfl | hd
    · exact hx
    · exact h d (List.mem_of_mem_drop hd)
theorem signs_ct (w : World) (a0 a1 a2 a3 a4 : Int) (t0 t1 t2 t3 t4 : Nat) :
    Ct (PySem.Challenge.rw_eg5003_01.row.prog) w (Mine.hd.heap_39 w.params) 74 5 (fun _ => True) [.int a0 t0, .int a1 t1, .int a2 t2, .int a3 t3, .int a4 t4] [] (fun v nw => nw = [] ∧ ∃ r t, v = .bytes r t ∧ KBw.bInts r = sigs a0 a1 a2 a3 a4) := by
  k_fill
  refine' Ct.ofC (by k_is) (by k_is) (fun s X => by exact BindsTo.of_eq rfl) (by rfl) (by decide) rfl rfl rfl (fun _ _ k x => x) ?_
  intro p loose mean mg mb dp un gd outer A₀ base g L s Q cells B F X N Y T hpre hd hu hret
  obtain ⟨oc, oc2, hE, d1, d2⟩ := PyProof.Rows.CellsAre.two Y
  subst hE
  clear Y
  replace d1 : oc.data = .cell (some (.int a2 t2)) := d1
  replace d2 : oc2.data = .cell (some (.int a1 t1)) := d2
  k_steps
  refine Stop.out ?_
  rename Fr _ _ _ _ => F1
  rename News _ _ _ _ => N1
  rename IntsAre _ _ => hI
  rename List.length _ = List.length _ => hz
  clear hz
  have hR : sigR a0 a1 a2 = List.map (fun k => 38 + (a1.fmod 89 + (1 + a2.fmod 88) * k).fmod 89) (rangeKs 0 (2 + a0.fmod 40 - 0).toNat) := by
    unfold sigR
    simp only [fmod_pos _ (show (0 : Int) ≤ 89 by decide), fmod_pos _ (show (0 : Int) ≤ 88 by decide), fmod_pos _ (show (0 : Int) ≤ 40 by decide), Int.sub_zero]
  rw [← hR] at hI
  clear hR
  have hRl := sigR_len a0 a1 a2
  have hRd : ∀ d ∈ sigR a0 a1 a2, 0 ≤ d ∧ d < 256 := fun d hd => by
    have := sigR_in a0 a1 a2 d hd
    omega
  unfold sigs sigS at hret
  generalize sigR a0 a1 a2 = Rr at hI hRl hret hRd
  refine name_addr N1 ?_
  intro D hD
  subst hD
  refine join_int "place" (fun q => q = if a3 % 3 = 0 then 0 else a3 % (Rr.length + 1 : Nat)) [("tab", .int a4 t4), ("row", .ref D)] F1 N1 ?first ?rest
  case first =>
    have jm : Stop True := trivial
    k_steps
    all_goals (
      refine Stop.out ?_
      rename Fr _ _ _ _ => F9
      rename News _ _ _ _ => N9
      refine ⟨by trivial, _, _, _, _, _, rfl, ?_, F9, rfl, (by simp only [List.forall_mem_cons]; exact ⟨rfl, rfl, by simp⟩), N9⟩)
    · rename a3.fmod 3 = 0 => h3
      rw [fmod_pos _ (by decide)] at h3
      rw [if_pos h3]
    · rename a3.fmod 3 ≠ 0 => h3
      rw [fmod_pos _ (by decide)] at h3
      rw [if_neg h3, fmod_pos _ (by omega)]
      rfl
  intro h tk q tq m0 hq F2 N2
  clear F1 N1
  have hq0 : 0 ≤ q ∧ q ≤ (Rr.length : Int) := by
    rw [hq]
    split
    · omega
    · have := emod_in (a := a3) (show (0 : Int) < ((Rr.length + 1 : Nat) : Int) by omega)
      omega
  rw [← hq] at hret
  clear hq
  k_steps
  refine Stop.out ?_
  rename Fr _ _ _ _ => F1
  rename News _ _ _ _ => N1
  refine join_row "row" (keep := []) (insAt Rr q 32) [("tab", .int a4 t4)] F1 N1 ?first2 ?rest2
  case first2 =>
    have jm : Stop True := trivial
    clear hret
    rename 0 ≤ a0.fmod 40 => z1
    rename a0.fmod 40 < 40 => z2
    clear z1 z2 d1 d2 hRd
    k_steps
    refine Stop.out ?_
    rename IntsAre _ (_ ++ _ ++ _) => hI9
    rename Fr _ _ _ _ => F9
    rename News _ _ _ _ => N9
    rw [List.append_assoc] at hI9
    exact ⟨by trivial, _, _, _, _, _, _, rfl, hI9, F9, rfl, (by simp only [List.forall_mem_cons]; exact ⟨rfl, by simp⟩), news_sub N9 sub_d⟩
  intro h tk D2 us n2 m2 hI2 F2 N2
  clear F1 N1 hI
  have hSl : (insAt Rr q 32).length = Rr.length + 1 := by
    unfold insAt
    rw [List.length_append, List.length_cons, List.length_take, List.length_drop]
    omega
  have hSd : ∀ d ∈ insAt Rr q 32, 0 ≤ d ∧ d < 256 := insAt_in hRd (by decide)
  generalize insAt Rr q 32 = S at hI2 hret hSl hSd
  k_steps
  refine Stop.out ?_
  rename Fr _ _ _ _ => F1
  rename News _ _ _ _ => N1
  refine join_row "row" (keep := []) (if a4 % 3 = 0 then insAt S (a4 % (S.length + 1 : Nat)) 9 else S) [] F1 N1 ?first3 ?rest3
  case first3 =>
    have jm : Stop True := trivial
    clear hret
    rename 0 ≤ a0.fmod 40 => z1
    rename a0.fmod 40 < 40 => z2
    clear z1 z2 d1 d2 hq0 hRd hSd
    have hfm : 0 ≤ a4.fmod ((S.length : Int) + 1) ∧ a4.fmod ((S.length : Int) + 1) ≤ (S.length : Int) := by
      have := emod_in (a := a4) (show (0 : Int) < (S.length : Int) + 1 by omega)
      rw [fmod_pos _ (by omega)]
      omega
    k_steps
    · refine Stop.out ?_
      rename IntsAre _ (_ ++ _ ++ _) => hI9
      rename Fr _ _ _ _ => F9
      rename News _ _ _ _ => N9
      rename a4.fmod 3 = 0 => h3
      rw [fmod_pos _ (by decide)] at h3
      rw [List.append_assoc, fmod_pos a4 (by omega)] at hI9
      exact ⟨by trivial, _, _, _, _, _, _, rfl, by rw [if_pos h3]; exact hI9, F9, rfl, (by simp), news_sub N9 sub_d⟩
    · refine Stop.out ?_
      rename Fr _ _ _ _ => F9
      rename News _ _ _ _ => N9
      rename a4.fmod 3 ≠ 0 => h3
      rw [fmod_pos _ (by decide)] at h3
      exact ⟨by trivial, _, _, _, _, _, _, rfl, by rw [if_neg h3]; exact hI2, F9, rfl, (by simp), N9⟩
  intro h tk D3 us3 n3 m3 hI3 F3 N3
  clear F1 N1 hI2
  have hZd : ∀ d ∈ (if a4 % 3 = 0 then insAt S (a4 % (S.length + 1 : Nat)) 9 else S), 0 ≤ d ∧ d < 256 := by
    split
    · exact insAt_in hSd (by decide)
    · exact hSd
  have hZl : (if a4 % 3 = 0 then insAt S (a4 % (S.length + 1 : Nat)) 9 else S).length ≤ 43 := by
    split
    · unfold insAt
      rw [List.length_append, List.length_cons, List.length_take, List.length_drop]
      omega
    · omega
  clear hRd hSd
  generalize (if a4 % 3 = 0 then insAt S (a4 % (S.length + 1 : Nat)) 9 else S) = Z at hI3 hret hZd hZl
  have husz : us3.toArray.size ≤ 43 := by
    rw [List.size_toArray, hI3.length]
    exact hZl
  k_steps
  rename KBa.In _ => hin
  rename Fr _ _ _ _ => F9
  exact hret _ [] _ _ _ ⟨rfl, _, _, rfl, KBa.ints_make hin⟩ F9 News.nil
end Mine
-- HP
namespace Mine
local macro_rules | `(tactic| walk_at "none") => `(tactic| fail)
local macro_rules | `(tactic| walk_at "none") => `(tactic| fail)
local macro_rules | `(tactic| walk_at "none") => `(tactic| fail)
local macro_rules | `(tactic| walk_at "none") => `(tactic| fail)
local macro_rules | `(tactic| walk_at "none") => `(tactic| fail)
local macro_rules | `(tactic| walk_at "none") => `(tactic| fail)
local macro_rules | `(tactic| walk_at "none") => `(tactic| fail)
local macro_rules | `(tactic| walk_at "none") => `(tactic| fail)
theorem fresh_walk_HP : True := by
 w_top off
 trivial
local macro_rules | `(tactic| walk1) => `(tactic| ((with_reducible show wpAny _ _ (exec (Stmt.While _ _ _ _) _) _ _ _); refine Stop.into ?_))
local macro_rules | `(tactic| walk1) => `(tactic| ((with_reducible show wpAny _ _ (exec (Stmt.For _ _ _ _ _) _) _ _ _); refine Stop.into ?_))
local macro_rules | `(tactic| walk1) => `(tactic| ((with_reducible show wpAny _ _ (pyIter _) _ _ _); refine Stop.into ?_))
local macro_rules | `(tactic| walk1) => `(tactic| ((with_reducible show wpAny _ _ (call (Value.ref _) _ _) _ _ _); refine Stop.into ?_))
local macro_rules | `(tactic| walk_at "getMethod bytes") => `(tactic| (with_reducible refine R.lstrip_method ?_))
local macro_rules | `(tactic| walk_at "getMethod bytes") => `(tactic| (with_reducible refine R.rstrip_method ?_))
local macro_rules | `(tactic| walk_at "getMethod str") => `(tactic| (with_reducible refine R.encode_method ?_))
local macro_rules | `(tactic| walk_at "call builtin:bytes.lstrip") => `(tactic| ((with_reducible show wpAny _ _ (call (Value.builtin "bytes.lstrip") [Value.bytes _ _, Value.bytes _ _]) _ _ _); (refine R.lstrip_call (by kba_ints2) (by kba_ints2) (by kba_size) ?_); intro _ _ _ hlst))
local macro_rules | `(tactic| walk_at "call builtin:bytes.rstrip") => `(tactic| ((with_reducible show wpAny _ _ (call (Value.builtin "bytes.rstrip") [Value.bytes _ _]) _ _ _); (refine R.rstrip_call (by kba_ints2) (by kba_size) ?_); intro _ _ _ hrst))
local macro_rules | `(tactic| walk_at "callWith ref") => `(tactic| (k_here; kfb_any; k_dflt (refine' R.fb_callWith ?hN ?hM ?ha ?_; (case hN => k_asm); (case hM => k_mem); (case ha => exact rfl); k_whole)))
local macro_rules | `(tactic| walk1) => `(tactic| ((with_reducible show wpAny _ _ (binaryOp Operator.Add (Value.bytes _ _) (Value.bytes _ _)) _ _ _); first | ((refine KBa.add_K (by kba_ints2) (by kba_ints2) (by ((try simp only [List.length_replicate, List.length_append, List.length_map, List.length_take, List.length_drop, List.length_cons, List.length_nil]); omega)) ?_); intro _ _ kbaApp) | (refine Stop.into ?_)))
local macro_rules | `(tactic| walk1) => `(tactic| ((with_reducible show wpAny _ _ (exec (Stmt.Assign _ (PySem.Expr.DictComp _ _ _ _ _) _) _) _ _ _); refine Stop.into ?_))
local macro_rules | `(tactic| walk1) => `(tactic| ((with_reducible show wpAny _ _ (call (Value.type "enumerate") _ _) _ _ _); refine Stop.into ?_))
local macro_rules | `(tactic| walk1) => `(tactic| ((with_reducible show wpAny _ _ (eval (PySem.Expr.ListComp _ _ _ _) _) _ _ _); refine Stop.into ?_))
theorem join_txt (l : List Int) : (PySem.Txt.join (PySem.Str.ofString "") (l.map fun k => (⟨#[k.toNat]⟩ : PySem.Str))).cps.toList = l.map Int.toNat := by
  show (Builtin.Str.glued (PySem.Str.ofString "") _).cps.toList = _
  rw [StrLaws.glued_eq_join]
  have e0 : (PySem.Str.ofString "").cps.toList = [] := by decide
  induction l with
  | nil => exact e0
  | cons a r ih =>
    cases r with
    | nil => rfl
    | cons b t =>
      show (PySem.Str.join (PySem.Str.ofString "") _).cps.toList = _
      simp only [List.map_cons] at ih ⊢
      unfold PySem.Str.join
      rw [KT.app_list, KT.app_list, ih, e0]
      rfl
theorem plain_ct (w : World) (b : Array UInt8) (ta : Nat) (ks : List Int) (hb : KBw.bInts b = ks) (hz : ks.length ≤ 200) :
    Ct (PySem.Challenge.rw_eg5003_01.row.prog) w (Mine.hd.heap_39 w.params) 100 5 (fun _ => True) [.bytes b ta] [] (fun v nw => nw = [] ∧ ∃ x t, v = .str x t ∧ x.cps.toList = ks.map Int.toNat) := by
  k_fill
  refine' Ct.of (by k_is) (by k_is) (fun s X => by exact BindsTo.of_eq rfl) (locs rfl) rfl rfl rfl (by decide) (fun _ _ k x => x) ?_
  intro p loose mean mg mb dp un gd outer A₀ base g L s Q B F X N T hpre hd hu hret
  k_steps
  refine Stop.out ?_
  refine R.LC_B F (by rfl) (by with_unfolding_all rfl) (by decide) (by rfl) (by decide) (by rfl) ?_
  refine nameX_L F (v := .bytes b ta) (by rfl) ?_
  refine ⟨b, ta, _, rfl, F, N, by rw [sizeLine_eq, ← KBw.ints_length, hb]; omega, fun g' => ?_⟩
  refine kct_rest (S := fun _ => True) (ks := ks) (fun k => (⟨#[k.toNat]⟩ : PySem.Str)) (by rw [← KBw.ints_length, hb]) (fun i v _ hv => by
      obtain ⟨c, u, hc, rfl⟩ := hv
      exact ⟨_, u, hb ▸ KBw.ints_get hc, rfl⟩) ?_ ?_
  · intro k t I oI C oC D' m₂ ys h tk E' hk hC hx F N off ne mk
    have hk2 := ints_lt hb k hk
    k_steps
  · unfold KPfDone
    intro ys hys hzl D h tk F N off
    k_steps
    exact hret _ [] _ _ _ ⟨rfl, _, _, rfl, join_txt ks⟩ F News.nil
end Mine
-- HW
namespace Mine
local macro_rules | `(tactic| walk_at "none") => `(tactic| fail)
local macro_rules | `(tactic| walk_at "none") => `(tactic| fail)
local macro_rules | `(tactic| walk_at "none") => `(tactic| fail)
local macro_rules | `(tactic| walk_at "none") => `(tactic| fail)
local macro_rules | `(tactic| walk_at "none") => `(tactic| fail)
local macro_rules | `(tactic| walk_at "none") => `(tactic| fail)
local macro_rules | `(tactic| walk_at "none") => `(tactic| fail)
local macro_rules | `(tactic| walk_at "none") => `(tactic| fail)
local macro_rules | `(tactic| walk_at "none") => `(tactic| fail)
theorem fresh_walk_HW : True := by
 w_top off
 trivial
local macro_rules | `(tactic| walk1) => `(tactic| ((with_reducible show wpAny _ _ (exec (Stmt.While _ _ _ _) _) _ _ _); refine Stop.into ?_))
local macro_rules | `(tactic| walk1) => `(tactic| ((with_reducible show wpAny _ _ (exec (Stmt.For _ _ _ _ _) _) _ _ _); refine Stop.into ?_))
local macro_rules | `(tactic| walk1) => `(tactic| ((with_reducible show wpAny _ _ (pyIter _) _ _ _); refine Stop.into ?_))
local macro_rules | `(tactic| walk1) => `(tactic| ((with_reducible show wpAny _ _ (call (Value.ref _) _ _) _ _ _); refine Stop.into ?_))
local macro_rules | `(tactic| walk_at "getMethod bytes") => `(tactic| (with_reducible refine R.lstrip_method ?_))
local macro_rules | `(tactic| walk_at "getMethod bytes") => `(tactic| (with_reducible refine R.rstrip_method ?_))
local macro_rules | `(tactic| walk_at "getMethod str") => `(tactic| (with_reducible refine R.encode_method ?_))
local macro_rules | `(tactic| walk_at "call builtin:bytes.lstrip") => `(tactic| ((with_reducible show wpAny _ _ (call (Value.builtin "bytes.lstrip") [Value.bytes _ _, Value.bytes _ _]) _ _ _); (refine R.lstrip_call (by kba_ints2) (by kba_ints2) (by kba_size) ?_); intro _ _ _ hlst))
local macro_rules | `(tactic| walk_at "call builtin:bytes.rstrip") => `(tactic| ((with_reducible show wpAny _ _ (call (Value.builtin "bytes.rstrip") [Value.bytes _ _]) _ _ _); (refine R.rstrip_call (by kba_ints2) (by kba_size) ?_); intro _ _ _ hrst))
local macro_rules | `(tactic| walk_at "callWith ref") => `(tactic| (k_here; kfb_any; k_dflt (refine' R.fb_callWith ?hN ?hM ?ha ?_; (case hN => k_asm); (case hM => k_mem); (case ha => exact rfl); k_whole)))
local macro_rules | `(tactic| walk1) => `(tactic| ((with_reducible show wpAny _ _ (binaryOp Operator.Add (Value.bytes _ _) (Value.bytes _ _)) _ _ _); first | ((refine KBa.add_K (by kba_ints2) (by kba_ints2) (by ((try simp only [List.length_replicate, List.length_append, List.length_map, List.length_take, List.length_drop, List.length_cons, List.length_nil]); omega)) ?_); intro _ _ kbaApp) | (refine Stop.into ?_)))
local macro_rules | `(tactic| walk1) => `(tactic| ((with_reducible show wpAny _ _ (exec (Stmt.Assign _ (PySem.Expr.DictComp _ _ _ _ _) _) _) _ _ _); refine Stop.into ?_))
local macro_rules | `(tactic| walk1) => `(tactic| ((with_reducible show wpAny _ _ (call (Value.type "enumerate") _ _) _ _ _); refine Stop.into ?_))
theorem whole_ct (w : World) (i j : Int) (ta tb : Nat) (h : i = j) :
    Ct (PySem.Challenge.rw_eg5003_01.row.prog) w (Mine.hd.heap_39 w.params) 107 5 (fun _ => True) [.int i ta, .int j tb] [] (fun v nw => nw = [] ∧ v = .bool true) := by
  k_fill
  refine' Ct.of (by k_is) (by k_is) (fun s X => by exact BindsTo.of_eq rfl) (locs rfl) rfl rfl rfl (by decide) (fun _ _ k x => x) ?_
  intro p loose mean mg mb dp un gd outer A₀ base g L s Q B F X N T hpre hd hu hret
  k_steps
  all_goals (try dsimp only)
  all_goals (first | exact hret _ [] _ _ _ ⟨rfl, rfl⟩ F N | exact hret _ [] _ _ _ ⟨rfl, by rw [h]; simp⟩ F N)
end Mine
-- S1
namespace Mine
/-- an exception whose entry stands, its context empty; fl: where it flies -/
def Hd (base : Heap) (l : List Env) (e : Addr) (X : String) (fl : Value) (h : Heap) : Prop :=
  base.StaysIn h ∧ base.get? e = none ∧ h.FunFrames base l ∧ ∃ oe a0 T oT ts, h.get? e = some oe ∧ oe.cls = .type X ∧ oe.data = .fields #[a0, .ref T, .none, .none, .bool false, .none] ∧ base.get? T = none ∧ T ≠ e ∧ h.get? T = some oT ∧ oT.data = .fields ts ∧ ts[3]? = some fl
theorem Hd.there {base h : Heap} {l : List Env} {e : Addr} {X : String} {fl : Value} (x : Hd base l e X fl h) : ∃ ob, h.get? e = some ob ∧ ob.cls = .type X := by
  obtain ⟨_, _, _, oe, _, _, _, _, he, hc, _⟩ := x
  exact ⟨oe, he, hc⟩
section
variable {M : Model} {A : Around} {E : Value → Shared → Prop} {s : Shared}
theorem note_first {base : Heap} {env : Env} {outer : List Env} {L e : Addr} {oe : Obj} {a0 : Value} {X : String} {Q : Unit → Shared → Prop}
    (hfr : A.frames = some (env :: outer)) (hl : s.heap.FunFrames base (env :: outer)) (hf : env.frame = some L)
    (he : s.heap.get? e = some oe) (hc : oe.cls = .type X) (hkb : base.StaysIn s.heap) (hen : base.get? e = none) (hd : oe.data = .fields #[a0, .none, .none, .none, .bool false, .none])
    (h : ∀ h', Hd base (env :: outer) e X (rawInt L) h' → s.heap.UpToSlots h' → Q () { s with heap := h' }) : wpAny M A (noteFrame (.ref e) env) Q E s := by
  unfold noteFrame
  simp only [hf]
  refine wpAny_bind (wpAny_field he hd (x := .none) rfl ?_)
  rw [if_neg (by decide)]
  have hene : e ∉ (env :: outer).filterMap (·.frame) := fun hm => by
    obtain ⟨_, o, ho, hnf⟩ := hl.mem hm
    rw [he] at ho; injection ho with ho; subst ho; exact hnf _ hd
  refine wpAny_bind (wpAny_frameOf_fun hfr hl hf fun h₁ hs₁ => ?_)
  refine wpAny_bind (wpAny_entryPlaceOf fun pl hpl => ?_)
  unfold EntryCells.newEntry newFields
  refine wpAny_bind (wpAny_newObj_type ?_ (hpl.sizeOk5 _ _ _ _ _))
  have he₁ : h₁.get? e = some oe := (hs₁.2.1 e hene).trans he
  have kb₁ : base.StaysIn h₁ := fun b o hbo => (hs₁.2.1 b fun hm => by rw [(hl.mem hm).1] at hbo; cases hbo).trans (hkb b o hbo)
  generalize hn : ({ cls := .type "traceback", dict := none, data := .fields ([Value.none, .ref L, .none, rawInt L, .none] ++ (if pl.isEmpty then List.replicate 6 Value.none else pl)).toArray } : Obj) = n
  have hnd : ∃ ts : Array Value, n.data = .fields ts ∧ ts[3]? = some (rawInt L) := by
    subst hn
    exact ⟨_, rfl, by simp⟩
  obtain ⟨ts, hnd, hn3⟩ := hnd
  have he₂ : (h₁.push n).get? e = some oe := Heap.get?_push_of_some _ he₁
  refine wpAny_setField he₂ hd (show 1 < 6 by decide) (h _ ?_ ?_)
  all_goals
    have hTe : h₁.objs.size ≠ e := Nat.ne_of_gt (Heap.lt_size he₁)
    have hd₃ := Obj.data_mapFields hd (·.setIfInBounds 1 (Value.ref h₁.objs.size))
    have he₃ := Heap.get?_update_self (Obj.mapFields (·.setIfInBounds 1 (Value.ref h₁.objs.size))) he₂ (Obj.isFreed_of_fields hd₃)
    have hT₃ := (Heap.get?_update_other (h₁.push n) (Obj.mapFields (·.setIfInBounds 1 (Value.ref h₁.objs.size))) (Ne.symm hTe)).trans (Heap.get?_push_size h₁ (Obj.isFreed_of_fields hnd))
    have keep : ∀ b o, b ≠ e → h₁.get? b = some o → ((h₁.push n).update e (Obj.mapFields (·.setIfInBounds 1 (Value.ref h₁.objs.size)))).get? b = some o := fun b o hbe hb => by
      rw [Heap.get?_update_other _ _ (Ne.symm hbe)]
      exact Heap.get?_push_of_some _ hb
    have noRecord : ∀ b o, s.heap.get? b = some o → (∀ vs, o.data ≠ .fields vs) → b ≠ e := fun b o hb hnf q => by
      rw [q, he] at hb; injection hb with hb; subst hb; exact hnf _ hd
  · refine ⟨fun b o hbo => keep b o (fun q => by rw [q, hen] at hbo; cases hbo) (kb₁ b o hbo), hen, hl.of_keeps fun b o hb hnf => ?_, _, a0, h₁.objs.size, _, _, he₃, (Obj.cls_mapFields _ _).trans hc, hd₃, kb₁.fresh, hTe, hT₃, hnd, hn3⟩
    obtain ⟨sl, hs⟩ := hs₁.2.2 b o hb
    exact ⟨_, keep b _ (noRecord b o hb hnf) hs, rfl⟩
  · intro b o hb hnf
    obtain ⟨sl, hs⟩ := hs₁.2.2 b o hb
    exact ⟨sl, keep b _ (noRecord b o hb hnf) hs⟩
theorem flight_none {base : Heap} {l : List Env} {e : Addr} {X : String} {fl : Value} {Q : Unit → Shared → Prop} (hh : Hd base l e X fl s.heap)
    (h : ∀ h', Hd base l e X .none h' → s.heap.UpToSlots h' → Q () { s with heap := h' }) : wpAny M A (setFlight (.ref e) none) Q E s := by
  obtain ⟨hkb, hen, hl, oe, a0, T, oT, ts, he, hcls, hd, hnT, hTe, hT, hdT, h3⟩ := hh
  have hsz3 : 3 < ts.size := (Array.getElem?_eq_some_iff.mp h3).1
  have other : ∀ b, b ≠ T → (s.heap.update T (Obj.mapFields (·.setIfInBounds 3 ((none : Option Addr).elim Value.none fun f => rawInt f)))).get? b = s.heap.get? b :=
    fun b hb => Heap.get?_update_other _ _ (Ne.symm hb)
  have noRecord : ∀ b o, s.heap.get? b = some o → (∀ vs, o.data ≠ .fields vs) → b ≠ T := fun b o hb hnf q => by
    rw [q, hT] at hb; injection hb with hb; subst hb; exact hnf ts hdT
  unfold setFlight
  refine wpAny_bind (wpAny_field he hd (x := .ref T) rfl ?_)
  rw [if_pos (show (Value.ref T != Value.none) = true from by simp)]
  refine wpAny_setField hT hdT hsz3 (h _ ⟨fun b o hbo => (other b fun q => by rw [q, hnT] at hbo; cases hbo).trans (hkb b o hbo), hen,
    hl.of_keeps fun b o hb hnf => ⟨o, (other b (noRecord b o hb hnf)).trans hb, rfl⟩, ?_⟩ fun b o hb hnf => ⟨o.slots, (other b (noRecord b o hb hnf)).trans hb⟩)
  exact ⟨oe, a0, T, _, _, (other e (Ne.symm hTe)).trans he, hcls, hd, hnT, hTe, Heap.get?_update_self _ hT (Obj.isFreed_of_fields (Obj.data_mapFields hdT _)), Obj.data_mapFields hdT _, by simp [hsz3]⟩
end
section
variable {prog : Program} {w : World} {A₀ : Around} {E : Value → Shared → Prop} {s' : Shared} {base g h : Heap} {outer : List Env} {L a e : Addr} {m : PySem.Str → Option Value} {name : PySem.Str} {scope : Scope} {cd : Value}
  {n : PySem.Str} {b₀ : Stmt} {suite : List Stmt} {pos np : Pos} {rest : List ExceptHandler} {Q : Flow → Shared → Prop} {KF : Frag}
  {p : Program} {loose : List PySem.Str} {mean : ExcName → Option Value} {mg mb : PySem.Str → Option Value} {x : PySem.Str} {X T' : String}
/-- an exception of the frame's own, caught by a name in it, other frames below; its object stays known -/
theorem caught_first (hx : Heap.NewExc h s'.heap e X) (F : Fr g L h m) (K : Below A₀ base outer g) (XB : KF.In base) (TB : Top p loose mean mg mb base) (D : KtsDicts (outer.filterMap (·.frame)) g)
    (ex : nsIn KF mainGlobals x = some none) (hv : bootBuiltins x = some (.type T')) (hn' : x ≠ "__name__")
    (hexc : isSubtype (.type T') (.type "BaseException") = pure true) (hnt : isSubtype (.type ((Manifest.find? T').elim "type" fun y => y.metatype)) (.type "tuple") = pure false) (hsub : isSubtype (.type X) (.type T') = pure true)
    (k : ∀ h' g' tk oe a0 T, KtsTurn (outer.filterMap (·.frame)) g g' → Fr g' L h' (fun y => if y = n then some (.ref e) else m y) → News g' L h' [(e, oe)] → oe.data = .fields #[a0, .ref T, .none, .none, .bool false, .none] → Below A₀ base outer g' → KF.In g' → Top p loose mean mg mb g' → KtsDicts (outer.filterMap (·.frame)) g' →
      wpAny (model prog w) ((A₀.deeper (envOf name scope L a cd)).mark (some (.ref e))) (execs (b₀ :: suite) (envOf name scope L a cd))
        (fun f s₄ => wpAny (model prog w) (A₀.deeper (envOf name scope L a cd)) (do bindName (envOf name scope L a cd) n .none; unbindBehindTheSuite (envOf name scope L a cd) n pos) (fun _ s₅ => Q f s₅) E s₄)
        (AsSuiteRaised (model prog w) ((A₀.deeper (envOf name scope L a cd)).mark (some (.ref e))) (envOf name scope L a cd) n pos (notedBy (model prog w) ((A₀.deeper (envOf name scope L a cd)).mark (some (.ref e))) (envOf name scope L a cd) (cameBackBy (model prog w) (A₀.deeper (envOf name scope L a cd)) (envOf name scope L a cd) E)))
        { s' with heap := h', toks := tk })
    (hk : scope.kind = .function := by rfl) (hlo : (envOf name scope L a cd).kindOf n = some .local := by rfl) (hx' : (envOf name scope L a cd).kindOf x = some .globalImplicit := by rfl) (hd : (x == ("__debug__" : PySem.Str)) = false := by decide) :
    wpAny (model prog w) (A₀.deeper (envOf name scope L a cd)) (noteFrame (.ref e) (envOf name scope L a cd))
      (fun _ s₂ => wpAny (model prog w) (A₀.deeper (envOf name scope L a cd)) (setFlight (.ref e) none) (fun _ s₃ =>
        wpAny (model prog w) (A₀.deeper (envOf name scope L a cd)) (handleBy (.ref e) (envOf name scope L a cd) (.ExceptHandler (some (.Name x np)) (some n) (b₀ :: suite) pos :: rest)) Q E s₃) E s₂) E s' := by
  have K' := K.push (name := name) (a := a) (cd := cd) F hk
  have hin : ∀ env ∈ (envOf name scope L a cd :: outer), ∀ b, env.frame = some b → b ∈ (envOf name scope L a cd :: outer).filterMap (·.frame) := fun env he b hb => List.mem_filterMap.mpr ⟨env, he, hb⟩
  have hBG : ∀ b o, h.get? b = some o → b ∉ (envOf name scope L a cd :: outer).filterMap (·.frame) → (hideAll h ((envOf name scope L a cd :: outer).filterMap (·.frame))).get? b = some o := fun b o q nm => hideAll_get _ q nm
  have hL : (hideAll h ((envOf name scope L a cd :: outer).filterMap (·.frame))).get? L = none := hideAll_none _ (List.mem_filterMap.mpr ⟨_, .head _, rfl⟩)
  obtain ⟨ob, tp, he, hcls, hde⟩ := hx.there
  have hen : (hideAll h ((envOf name scope L a cd :: outer).filterMap (·.frame))).get? e = none := by
    cases q : (hideAll h ((envOf name scope L a cd :: outer).filterMap (·.frame))).get? e with
    | none => rfl
    | some o => have := of_hideAll _ q; rw [hx.new] at this; cases this
  have hsm : h.UpToSlots s'.heap := Heap.UpToSlots.of_keeps hx.keeps
  refine note_first (Around.frames_deeper K.stack) ((funFrames_hide K'.frames hin).of_keeps fun b o hb _ => ⟨o, hx.keeps b o hb, rfl⟩) rfl he hcls (fun b o hb => hx.keeps b o (of_hideAll _ hb)) hen hde fun h₄ hheld₄ hsm₄ => ?_
  refine flight_none hheld₄ fun h₅ hheld hsm₅' => ?_
  have hsm₅ := hsm₄.trans hsm₅'
  obtain ⟨g₅, T₅, F₅, K₅⟩ := kts_ground K F hBG hheld.1 (hsm.trans hsm₅)
  have X₅ : KF.In g₅ := XB.keeps K₅.stays
  have P₅ : TopRead p loose mg mb g₅ := topRead_of (TB.keeps K₅.stays)
  obtain ⟨ob, hob, hobc⟩ := hheld.there
  refine wpAny_handleBy_builtin_as (X := X) (T := T') (b := true) hexc hnt hsub (name_B F₅ X₅ P₅ ex hv hn' ⟨rfl, ⟨ob, hob, hobc⟩, ?_⟩ hk hx' hd)
  refine flight_none hheld fun h₆ hfl₆ hsm₆ => ?_
  obtain ⟨g₆, T₆, F₆, K₆⟩ := kts_ground K F hBG hfl₆.1 ((hsm.trans hsm₅).trans hsm₆)
  have X₆ : KF.In g₆ := XB.keeps K₆.stays
  have P₆ : Top p loose mean mg mb g₆ := TB.keeps K₆.stays
  have D₆ : KtsDicts (outer.filterMap (·.frame)) g₆ := D.turn T₆
  obtain ⟨_, _, _, oe, a0, T, oT, ts, hoe, hoec, hoed, _⟩ := id hfl₆
  have ne₆ : g₆.get? e = none := T₆.none_ _ (kts_none F.keep hx.new)
  have N₆ := News.more F₆ News.nil hoe (fun es n q => by rw [hoed] at q; cases q) ne₆
  refine stN F₆ N₆ (fun h₇ F₇ N₇ => ?_) hk hlo
  exact k h₇ g₆ _ oe a0 T T₆ F₇ N₇ hoed K₆ X₆ P₆ D₆
end
end Mine
-- S2
namespace Mine
def Anew (h h' : Heap) (e : Addr) (cls : String) : Prop :=
  (∀ b o, h.get? b = some o → h'.get? b = some o) ∧ h.get? e = none ∧ ∃ ob vs v0, h'.get? e = some ob ∧ ob.cls = .type cls ∧ ob.data = .fields vs ∧ vs[1]? = some .none ∧ vs[0]? = some v0
theorem entry_unchain : entryFor table "proto.unchain" = some Builtin.«proto.unchain» := entryFor_of_tree (by kernel_rfl)
section
variable {prog : Program} {w : World} {A : Around} {E : Value → Shared → Prop} {s : Shared} {env : Env}
theorem Raise_none {cls newId initId : String} (F : ExcCallFacts cls newId initId) (G : ExcRaiseFacts cls) {x : PySem.Str} {np cpos pos kp : Pos} {kk : Nat} {Q : Flow → Shared → Prop} {e1 : Addr} {o1 : Obj} {a0 t1 : Value}
    (hh : A.handled = some (.ref e1)) (ho : s.heap.get? e1 = some o1) (hd : o1.data = .fields #[a0, t1, .none, .none, .bool false, .none])
    (hname : ∀ Q' : Value → Shared → Prop, Q' (.type cls) s → wpAny (model prog w) A (eval (.Name x np) env) Q' E s)
    (h : ∀ h' tk e, Anew s.heap h' e cls → E (.ref e) { s with heap := h', toks := tk }) :
    wpAny (model prog w) A (exec (.Raise (some (.Call (.Name x np) [] [] cpos)) (some (.Constant .none kk kp)) pos) env) Q E s := by
  rw [arm_exec_Raise]
  refine wpAny_bind (wpAny_standAt ?_)
  simp only [evalOpt, Option.map]
  unfold raiseStmt
  dsimp only
  refine wpAny_bind (wpAny_bind (wpAny_Call_ofName (hname _ (callWith_excType rfl ?_))))
  obtain ⟨hp, g, d, tk, os⟩ := s
  refine PySem.evalArgs_none ?_
  refine wpAny_call_exc F fun h₁ e hm => ?_
  obtain ⟨t, he, htn, ht⟩ := hm.there
  have ho₁ := hm.keeps _ _ ho
  have hne : e1 ≠ e := fun q => by
    have := hm.new
    rw [← q] at this
    rw [show hp.get? e1 = some o1 from ho] at this
    cases this
  refine wpAny_bind (wpAny_standAt (wpAny_pure ?_))
  have hsub := G.isExc
  have hmeta := G.plainMeta
  refine wpAny_bind (wpAny_holding (wpAny_bind ?_))
  wp_walk
  generalize hz : (h₁.update e (Obj.mapFields fun x => x.setIfInBounds 3 Value.none)).update e (Obj.mapFields fun x => x.setIfInBounds 4 (Value.bool true)) = h₂
  have up : ∀ b, b ≠ e → h₂.get? b = h₁.get? b := fun b hb => by
    rw [← hz, Heap.get?_update_other _ _ (Ne.symm hb), Heap.get?_update_other _ _ (Ne.symm hb)]
  have he₂ : h₂.get? e = some { cls := .type cls, data := .fields #[.ref t, .none, .none, .none, .bool true, .none] } := by
    rw [← hz]
    exact Heap.get?_update_self _ (Heap.get?_update_self _ he rfl) rfl
  have ho₂ : h₂.get? e1 = some o1 := (up e1 hne).trans ho₁
  clear hz
  unfold raiseNew
  refine wpAny_bind (wpAny_handled ?_)
  rw [hh]
  dsimp only
  rw [if_pos (show (Value.ref e1 != Value.ref e) = true from by simpa using hne)]
  refine wpAny_bind (wpAny_holding (wpAny_runValue (codeAny_builtin entry_unchain ?_)))
  unfold Builtin.«proto.unchain»
  dsimp only
  refine wpAny_bind (wpAny_field ho₂ hd (x := .none) rfl ?_)
  rw [if_pos (by decide)]
  refine wpAny_pure ?_
  dsimp only
  refine wpAny_bind (m := setField (.ref e) 2 (.ref e1)) (wpAny_setField he₂ rfl (show 2 < 6 by decide) (wpAny_throw ?_))
  refine h _ _ e ⟨fun b o hb => ?_, hm.new, _, _, _, Heap.get?_update_self _ he₂ rfl, rfl, rfl, rfl, rfl⟩
  have hbe : b ≠ e := fun q => by
    have := hm.new
    rw [← q] at this
    rw [show hp.get? b = some o from hb] at this
    cases this
  show ((h₂.update e _).get? b) = some o
  rw [Heap.get?_update_other _ _ (Ne.symm hbe), up b hbe]
  exact hm.keeps b o hb
end
end Mine
-- S3
namespace Mine
theorem funFrames_up {g h B base : Heap} (k : g.UpToSlots h) : ∀ {l : List Env}, (∀ env ∈ l, ∀ a, env.frame = some a → B.get? a = none) → g.FunFrames base l → h.FunFrames B l
  | [], _, _ => trivial
  | env :: _, hB, ⟨hk, ⟨L, o, hf, _, ho, hd⟩, hr⟩ => by
    obtain ⟨sl, hs⟩ := k L o ho hd
    exact ⟨hk, ⟨L, _, hf, hB env (.head _) L hf, hs, hd⟩, funFrames_up k (fun e he => hB e (.tail _ he)) hr⟩
section
variable {M : Model} {A : Around} {E : Value → Shared → Prop} {s : Shared}
theorem flight_some {base : Heap} {l : List Env} {e L : Addr} {cls a0 : Value} {Q : Unit → Shared → Prop} (R : Heap.HeldW base l e cls a0 L s.heap)
    (h : ∀ h', Heap.HeldW base l e cls a0 L h' → s.heap.UpToSlots h' → Q () { s with heap := h' }) : wpAny M A (setFlight (.ref e) (some L)) Q E s := by
  obtain ⟨hkb, hen, hl, oe, vs, T, oT, ts, he, hcls, hd, h1, hnT, hTe, hT, hdT, h3⟩ := R
  have hsz3 : 3 < ts.size := (Array.getElem?_eq_some_iff.mp h3).1
  have other : ∀ b, b ≠ T → (s.heap.update T (Obj.mapFields (·.setIfInBounds 3 ((some L).elim Value.none fun f => rawInt f)))).get? b = s.heap.get? b :=
    fun b hb => Heap.get?_update_other _ _ (Ne.symm hb)
  have noRecord : ∀ b o, s.heap.get? b = some o → (∀ vs, o.data ≠ .fields vs) → b ≠ T := fun b o hb hnf q => by
    rw [q, hT] at hb; injection hb with hb; subst hb; exact hnf ts hdT
  unfold setFlight
  refine wpAny_bind (wpAny_field he hd h1 ?_)
  rw [if_pos (show (Value.ref T != Value.none) = true from by simp)]
  refine wpAny_setField hT hdT hsz3 (h _ ⟨fun b o hbo => (other b fun q => by rw [q, hnT] at hbo; cases hbo).trans (hkb b o hbo), hen,
    hl.of_keeps fun b o hb hnf => ⟨o, (other b (noRecord b o hb hnf)).trans hb, rfl⟩, ?_⟩ fun b o hb hnf => ⟨o.slots, (other b (noRecord b o hb hnf)).trans hb⟩)
  exact ⟨oe, vs, T, _, _, (other e (Ne.symm hTe)).trans he, hcls, hd, h1, hnT, hTe, Heap.get?_update_self _ hT (Obj.isFreed_of_fields (Obj.data_mapFields hdT _)), Obj.data_mapFields hdT _, by simp [hsz3]⟩
theorem field_held {base : Heap} {l : List Env} {e L : Addr} {cls a0 : Value} {Q : Value → Shared → Prop} (R : Heap.HeldW base l e cls a0 L s.heap) (h : ∀ T, Q (.ref T) s) : wpAny M A (field (.ref e) 1) Q E s := by
  obtain ⟨hkb, hen, hl, oe, vs, T, oT, ts, he, hcls, hd, h1, _⟩ := R
  exact wpAny_field he hd h1 (h T)
end
section
variable {prog : Program} {w : World} {A₀ : Around} {E : Value → Shared → Prop} {s' : Shared} {base g h : Heap} {outer : List Env} {L a e : Addr} {m : PySem.Str → Option Value} {name : PySem.Str} {scope : Scope} {cd : Value} {n : PySem.Str} {pos : Pos} {cls : String} {hd : Option Value} {R : Value → Shared → Prop} {E₁ : Value → Shared → Prop}
/-- an exception made in a handler with a name leaves the frame -/
theorem out_anew (hx : Anew h s'.heap e cls) (F : Fr g L h m) (K : Below A₀ base outer g)
    (hQ : ∀ h' tk, RaisedSN base g outer e (.type cls) [] h' → RaisedN base outer e (.type cls) [] h' → g.UpToSlots h' → R (.ref e) { s' with heap := h', toks := tk })
    (hk : scope.kind = .function := by rfl) (hlo : (envOf name scope L a cd).kindOf n = some .local := by rfl) :
    AsSuiteRaised (model prog w) ((A₀.deeper (envOf name scope L a cd)).mark hd) (envOf name scope L a cd) n pos
      (notedBy (model prog w) ((A₀.deeper (envOf name scope L a cd)).mark hd) (envOf name scope L a cd) (cameBackBy (model prog w) (A₀.deeper (envOf name scope L a cd)) (envOf name scope L a cd)
        (fun e' s'' => wpAny (model prog w) (A₀.deeper (envOf name scope L a cd)) (leaving (envOf name scope L a cd) e') (fun _ s₃ => R e' s₃) E₁ s''))) (.ref e) s' := by
  obtain ⟨kp, hnew, ob, vs, v0, he, hcls, hdt, h1, h0⟩ := hx
  have K' := K.push (name := name) (a := a) (cd := cd) F hk
  have hin : ∀ env ∈ (envOf name scope L a cd :: outer), ∀ b, env.frame = some b → b ∈ (envOf name scope L a cd :: outer).filterMap (·.frame) := fun env he b hb => List.mem_filterMap.mpr ⟨env, he, hb⟩
  generalize hBB : hideAll h ((envOf name scope L a cd :: outer).filterMap (·.frame)) = B
  have hBh : ∀ b o, B.get? b = some o → h.get? b = some o := fun b o q => of_hideAll _ (hBB ▸ q)
  have hBn : ∀ b, b ∈ (envOf name scope L a cd :: outer).filterMap (·.frame) → B.get? b = none := fun b hb => hBB ▸ hideAll_none _ hb
  have hL : B.get? L = none := hBn L (List.mem_filterMap.mpr ⟨_, .head _, rfl⟩)
  have st : base.StaysIn B := fun b o q => hBB ▸ hideAll_get _ (K'.stays b o q) fun hm => by
    rw [(K'.frames.mem hm).1] at q; cases q
  have sg : ∀ b o, g.get? b = some o → b ∉ outer.filterMap (·.frame) → B.get? b = some o := fun b o q nm => hBB ▸ hideAll_get _ (F.keep b o q) fun hm => by
    rcases kts_mem hm with z | z
    · rw [z, kts_self F] at q
      cases q
    · exact nm z
  have hff : h.FunFrames B (envOf name scope L a cd :: outer) := hBB ▸ funFrames_hide K'.frames hin
  have hen : B.get? e = none := by
    cases q : B.get? e with
    | none => rfl
    | some o => have := hBh _ _ q; rw [hnew] at this; cases this
  clear hBB
  show wpAny _ _ (noteFrame (.ref e) (envOf name scope L a cd)) _ _ _
  unfold noteFrame
  refine wpAny_bind (wpAny_field he hdt h1 ?_)
  rw [if_neg (by decide)]
  refine wpAny_entryW (outer := outer) (Around.frames_deeper K.stack) (hff.of_keeps fun b o hb _ => ⟨o, kp b o hb, rfl⟩) rfl he (fun b o hb => kp b o (hBh b o hb)) hen hdt (Array.getElem?_eq_some_iff.mp h1).1 h0 fun h₁ hN => ?_
  obtain ⟨n1, n2, n3, n4⟩ := hN
  rw [hcls] at n3
  have up₁ : g.UpToSlots h₁ := ((Heap.UpToSlots.of_keeps F.keep).trans (Heap.UpToSlots.of_keeps kp)).trans n4
  have hns : h₁.Ns L m := Heap.UpToSlots.ns n4 (let ⟨o, es, ep, q, r⟩ := F.ns; ⟨o, es, ep, kp _ _ q, r⟩)
  refine wpAny_nameGoes hlo hns (by
    show (scope.kind == .class || (scope.kind == .module && _)) = false
    rw [hk]
    rfl) fun h₂ m₂ hn₂ hs₂ => ?_
  have up₂ : g.UpToSlots h₂ := fun b o q hnf => by
    obtain ⟨sl, q₁⟩ := up₁ b o q hnf
    have hb : b ≠ L := fun z => by rw [z, kts_self F] at q; cases q
    exact ⟨sl, (hs₂.2 b hb).trans q₁⟩
  have hH : Heap.HeldW B (envOf name scope L a cd :: outer) e (.type cls) v0 L h₂ := by
    refine ⟨fun b o q => ?_, hen, Heap.FunFrames.cons (by show scope.kind ≠ .module; rw [hk]; decide) rfl hn₂ hL (funFrames_up up₂ (fun env he b hb => hBn b (List.mem_filterMap.mpr ⟨env, .tail _ he, hb⟩)) K.frames), ?_⟩
    · have hb : b ≠ L := fun z => by rw [z, hL] at q; cases q
      exact (hs₂.2 b hb).trans (n1 b o q)
    · obtain ⟨oe, ws, T, oT, ts, k1, k2, k3, k4, k5, k6, k7, k8, k9⟩ := n3
      obtain ⟨oL, esL, epL, qL, qd, _⟩ := hns
      have heL : e ≠ L := fun z => by
        rw [← z, k1] at qL
        cases qL
        rw [k3] at qd
        cases qd
      have hTL : T ≠ L := fun z => by
        rw [← z, k7] at qL
        cases qL
        rw [k8] at qd
        cases qd
      exact ⟨oe, ws, T, oT, ts, (hs₂.2 e heL).trans k1, k2, k3, k4, k5, k6, (hs₂.2 T hTL).trans k7, k8, k9⟩
  unfold PySem.passOn
  refine wpAny_bind (field_held (s := { s' with heap := h₂, toks := s'.toks + 1 }) hH fun T => ?_)
  rw [if_neg (show ¬ ((Value.ref T == Value.none) = true) from by simp)]
  have fin : ∀ h₃, Heap.HeldW B (envOf name scope L a cd :: outer) e (.type cls) v0 L h₃ → h₂.UpToSlots h₃ →
      notedBy (model prog w) ((A₀.deeper (envOf name scope L a cd)).mark hd) (envOf name scope L a cd) (cameBackBy (model prog w) (A₀.deeper (envOf name scope L a cd)) (envOf name scope L a cd)
        (fun e' s'' => wpAny (model prog w) (A₀.deeper (envOf name scope L a cd)) (leaving (envOf name scope L a cd) e') (fun _ s₃ => R e' s₃) E₁ s'')) (.ref e) { s' with heap := h₃, toks := s'.toks + 1 } := by
    intro h₃ hH₃ u₃
    refine wpAny_noteFrame_againW rfl hH₃.2.2.2 ?_
    show wpAny _ _ (do
      if (← field (.ref e) 1) == .none then unsupported "frame.own-activation:exception-without-traceback"
      setFlight (.ref e) (some L)) _ _ _
    refine wpAny_bind (field_held (s := { s' with heap := h₃, toks := s'.toks + 1 }) hH₃ fun T => ?_)
    rw [if_neg (show ¬ ((Value.ref T == Value.none) = true) from by simp)]
    first
      | refine wpAny_bind (wpAny_pure (flight_some (s := { s' with heap := h₃, toks := s'.toks + 1 }) hH₃ fun h₄ hH₄ u₄ => ?_))
      | refine flight_some (s := { s' with heap := h₃, toks := s'.toks + 1 }) hH₃ fun h₄ hH₄ u₄ => ?_
    show wpAny _ _ (leaving _ (.ref e)) _ _ _
    unfold leaving
    refine wpAny_bind (wpAny_noteFrame_againW rfl hH₄.2.2.2 ?_)
    refine wpAny_landsW (s := { s' with heap := h₄, toks := s'.toks + 1 }) hH₄ fun h₅ hfl u₅ => ?_
    obtain ⟨k1, k2, ⟨_, _, k3⟩, k4⟩ := hfl
    have RR : RaisedSN base g outer e (.type cls) [] h₅ := ⟨B, v0, st, sg, (fun q hq => by cases hq), k1, k2, k3, k4⟩
    exact hQ h₅ _ RR RR.toN (up₂.trans (u₃.trans (u₄.trans u₅)))
  first
    | exact wpAny_bind (wpAny_pure (wpAny_bind (flight_some (s := { s' with heap := h₂, toks := s'.toks + 1 }) hH fun h₃ hH₃ u₃ => wpAny_throw (fin h₃ hH₃ u₃))))
    | exact wpAny_bind (flight_some (s := { s' with heap := h₂, toks := s'.toks + 1 }) hH fun h₃ hH₃ u₃ => wpAny_throw (fin h₃ hH₃ u₃))
end
end Mine
-- S4
namespace Mine
section
variable {prog : Program} {w : World} {A₀ A : Around} {s : Shared} {base h₀ : Heap} {L : Addr} {m : PySem.Str → Option Value} {env : Env} {news : List (Addr × Obj)} {K : Frag} {p : Program} {loose : List PySem.Str} {mean : ExcName → Option Value} {mg mb : PySem.Str → Option Value}
    {R : Result → Shared → Prop} {name qual : PySem.Str} {params : Arguments} {body : List Stmt} {scope : Scope} {dV kV doc pm cdv ct oc : Value} {an od : Option Addr} {osl : Array (Option Value)} {f : Addr} {args : Args} {binds : List (PySem.Str × Value)}
/-- a def that catches, called from the lowest frame, of whatever kind; the caller's ledger is kept -/
theorem code_defX0 (B : Below A₀ base [] h₀) (F : Fr h₀ L s.heap m) (X₀ : K.In h₀) (N : News h₀ L s.heap news) (T : Top p loose mean mg mb h₀) (hA : A.frames = some [env]) (hf : env.frame = some L) (hke : env.scope.kind = .function)
    (ho : K.lookup f = some ⟨oc, od, .func (fnOf name qual params body scope dV kV doc pm an cdv ct), osl⟩) (hcd : codeIn K cdv qual = true) (hroom : A.depth < recursionLimit)
    (hbind : BindsTo s (fnOf name qual params body scope dV kV doc pm an cdv ct) args binds) (hloc : ∀ y ∈ binds, scope.names.lookup y.1 = some .local)
    (h : ∀ g L' h₁, Fr g L' h₁ (fun y => binds.reverse.lookup y) → News g L' h₁ [] → Below A base [env] g → K.In g → Top p loose mean mg mb g → KtsDicts ([env].filterMap (·.frame)) g →
      wpAny (model prog w) (A.deeper (envOf qual scope L' f cdv)) (execs body (envOf qual scope L' f cdv))
        (fun fl s' => LeaveS0 ([env].filterMap (·.frame)) h₀ L m g (fun r s' => News h₀ L s'.heap news → R r s') (match fl with | .ret v => v | _ => .none) s')
        (fun e s' => wpAny (model prog w) (A.deeper (envOf qual scope L' f cdv)) (leaving (envOf qual scope L' f cdv) e) (fun _ s'' => R (.error e) s'') (fun e' s'' => R (.error e') s'') s')
        { s with heap := h₁, toks := s.toks + binds.length })
    (hco : scope.isCoroutine = false) (hgen : scope.isGenerator = false) (hk : scope.kind = .function)
    (hcell : ∀ x ∈ scope.names, x.2 ≠ .cell) : codeAny (model prog w) A (.call (.ref f) args) R s := by
  have X := X₀.keeps F.keep
  refine codeAny_call_def (fd := fnOf name qual params body scope dV kV doc pm an cdv ct) (body := body) (binds := binds) hroom (X _ _ ho) rfl (T.nolimit.keeps F.keep) (codeRec_of X hcd) rfl hbind hcell hloc (fun h₁ hns hk₁ => ?_) hco hgen hk
  obtain ⟨FG, BG, st, _⟩ := groundX (R := R) B F (News.nil (h₀ := h₀) (L := L) (h := s.heap)) hA hf hke
  obtain ⟨oL, es, ep, hL, hLd, hLk, hLf⟩ := F.ns
  have memL : ∀ b, b ∈ [env].filterMap (·.frame) → b = L := fun b hb => by
    obtain ⟨e', he', hb'⟩ := List.mem_filterMap.mp hb
    rw [List.mem_singleton.mp he', hf] at hb'
    exact (Option.some.inj hb').symm
  refine wpAny_mono (h s.heap s.heap.objs.size h₁ ⟨hns, fun b o e => hk₁ b o e, Nat.le_refl _⟩ News.nil BG (X₀.keeps st) (T.keeps st) (fun b hb => ?_)) (fun fl s' hl => ?_) fun _ _ y => y
  · rw [memL b hb]
    exact ⟨oL, es, ep, hL, hLd⟩
  obtain ⟨g', L', m', news', T', F', N', k⟩ := hl
  have nL₀ : h₀.get? L = none := kts_self F
  obtain ⟨sl, hs⟩ := T'.up hL
  refine k ⟨⟨_, es, ep, F'.keep _ _ hs, hLd, hLk, hLf⟩, fun b o e => F'.keep b o (T'.other b o (st b o e) (fun q => by
    rw [memL b q, nL₀] at e
    cases e)), F.above⟩ (fun p hp => ⟨(N' p hp).1, fun q => ?_, ?_⟩) fun p hp => ⟨F'.keep _ _ (T'.other _ _ (N p hp).1 fun q => (N p hp).2.1 (memL _ q)), (N p hp).2⟩
  · have := (N' p hp).2.2; rw [q, hs] at this; cases this
  · cases q : h₀.get? p.1 with
    | none => rfl
    | some o =>
      obtain ⟨sl', hs'⟩ := T'.up (st _ _ q)
      have := (N' p hp).2.2
      rw [hs'] at this
      cases this
end
theorem raised_back {base g g' : Heap} {l : List Env} {e : Addr} {cls : Value} {h : Heap} (T : KtsTurn (l.filterMap (·.frame)) g g') (R : RaisedSN base g' l e cls [] h) : RaisedSN base g l e cls [] h := by
  obtain ⟨B, a0, hB, hBG, _, hfl⟩ := R
  exact ⟨B, a0, hB, fun b o q nm => hBG b o (T.other b o q nm) nm, (fun q hq => by cases hq), hfl⟩
theorem up_back {fs : List Addr} {g g' h : Heap} (T : KtsTurn fs g g') (U : g'.UpToSlots h) : g.UpToSlots h := fun b o q hnf => by
  obtain ⟨sl, q'⟩ := T.up q
  obtain ⟨sl', q''⟩ := U b _ q' hnf
  exact ⟨sl', q''⟩
end Mine
-- G2
namespace Mine
local macro_rules | `(tactic| walk_at "none") => `(tactic| fail)
local macro_rules | `(tactic| walk_at "none") => `(tactic| fail)
local macro_rules | `(tactic| walk_at "none") => `(tactic| fail)
local macro_rules | `(tactic| walk_at "none") => `(tactic| fail)
local macro_rules | `(tactic| walk_at "none") => `(tactic| fail)
local macro_rules | `(tactic| walk_at "none") => `(tactic| fail)
local macro_rules | `(tactic| walk_at "none") => `(tactic| fail)
local macro_rules | `(tactic| walk_at "none") => `(tactic| fail)
theorem fresh_walk_G2 : True := by
 w_top off
 trivial
local macro_rules | `(tactic| walk1) => `(tactic| ((with_reducible show wpAny _ _ (exec (Stmt.While _ _ _ _) _) _ _ _); refine Stop.into ?_))
local macro_rules | `(tactic| walk1) => `(tactic| ((with_reducible show wpAny _ _ (exec (Stmt.For _ _ _ _ _) _) _ _ _); refine Stop.into ?_))
local macro_rules | `(tactic| walk1) => `(tactic| ((with_reducible show wpAny _ _ (pyIter _) _ _ _); refine Stop.into ?_))
local macro_rules | `(tactic| walk1) => `(tactic| ((with_reducible show wpAny _ _ (call (Value.ref _) _ _) _ _ _); refine Stop.into ?_))
local macro_rules | `(tactic| walk_at "getMethod bytes") => `(tactic| (with_reducible refine R.lstrip_method ?_))
local macro_rules | `(tactic| walk_at "getMethod bytes") => `(tactic| (with_reducible refine R.rstrip_method ?_))
local macro_rules | `(tactic| walk_at "getMethod str") => `(tactic| (with_reducible refine R.encode_method ?_))
local macro_rules | `(tactic| walk_at "call builtin:bytes.lstrip") => `(tactic| ((with_reducible show wpAny _ _ (call (Value.builtin "bytes.lstrip") [Value.bytes _ _, Value.bytes _ _]) _ _ _); (refine R.lstrip_call (by kba_ints2) (by kba_ints2) (by kba_size) ?_); intro _ _ _ hlst))
local macro_rules | `(tactic| walk_at "call builtin:bytes.rstrip") => `(tactic| ((with_reducible show wpAny _ _ (call (Value.builtin "bytes.rstrip") [Value.bytes _ _]) _ _ _); (refine R.rstrip_call (by kba_ints2) (by kba_size) ?_); intro _ _ _ hrst))
local macro_rules | `(tactic| walk_at "callWith ref") => `(tactic| (k_here; kfb_any; k_dflt (refine' R.fb_callWith ?hN ?hM ?ha ?_; (case hN => k_asm); (case hM => k_mem); (case ha => exact rfl); k_whole)))
local macro_rules | `(tactic| walk1) => `(tactic| ((with_reducible show wpAny _ _ (binaryOp Operator.Add (Value.bytes _ _) (Value.bytes _ _)) _ _ _); first | ((refine KBa.add_K (by kba_ints2) (by kba_ints2) (by ((try simp only [List.length_replicate, List.length_append, List.length_map, List.length_take, List.length_drop, List.length_cons, List.length_nil]); omega)) ?_); intro _ _ kbaApp) | (refine Stop.into ?_)))
local macro_rules | `(tactic| walk1) => `(tactic| ((with_reducible show wpAny _ _ (exec (Stmt.Assign _ (PySem.Expr.DictComp _ _ _ _ _) _) _) _ _ _); refine Stop.into ?_))
local macro_rules | `(tactic| walk1) => `(tactic| ((with_reducible show wpAny _ _ (call (Value.type "enumerate") _ _) _ _ _); refine Stop.into ?_))
theorem refused_use {w : World} {b sg : Array UInt8} {ks ss : List Int} {ta tb : Nat} (hb : KBw.bInts b = ks) (hs : KBw.bInts sg = ss) (h2 : 2 ≤ ss.length) (h3 : ss.length ≤ 200) (h4 : ks.length ≤ 5000) (h32 : (32 : Int) ∈ ss) (hno : ¬ ∀ k ∈ ks, k ∈ ss)
    {p : Program} {loose : List PySem.Str} {mean : ExcName → Option Value} {mg mb : PySem.Str → Option Value} {dp un : Nat} {gd : Option (List Code)} {cn : PySem.Str} {cs : Scope} {a : Addr} {ccd : Value} {cl : List (PySem.Str × Addr)} {A₀ : Around} {h₀ : Heap} {L : Addr} {m : PySem.Str → Option Value} {news : List (Addr × Obj)} {s : Shared} {Q E : Value → Shared → Prop}
    (B : Below A₀ h₀ [] h₀) (F : Fr h₀ L s.heap m) (X : (Mine.hd.heap_39 w.params).In h₀) (N : News h₀ L s.heap news) (T : Top p loose mean mg mb h₀) (hck : cs.kind = .function) (hd : dp + 18 < recursionLimit) (hu : un + 20 * 18 < cLine)
    (hret : ∀ h' tk', Fr h₀ L h' m → News h₀ L h' news → Q (.bool true) { s with heap := h', toks := tk' }) :
    wpAny (model (PySem.Challenge.rw_eg5003_01.row.prog) w) (ktrTop dp un gd cn cs L a ccd cl []) (call (.ref 114) [.bytes b ta, .bytes sg tb] []) Q E s := by
  revert X
  k_fill
  intro X
  refine wpAny_call ?_
  refine code_defX0 B F X N T rfl rfl hck (by k_is) (by k_is) (by show dp < recursionLimit; omega) (BindsTo.of_eq rfl) (locs rfl) ?_ rfl rfl rfl (by decide)
  intro g L1 h1 F1 N1 B1 X1 T1 D1
  k_steps
  refine Stop.out ?_
  rename Fr g L1 _ _ => F2
  rename News g L1 _ _ => N2
  refine wpAny_call ?_
  refine code_defS B1 F2 X1 N2 T1 X T D1 KtsTurn.refl rfl (by k_is) (by k_is) (by dsimp only [ktrTop, Around.deeper]; omega) (kp_binds (X1.keeps F2.keep) (fun _ => rfl)) (locs rfl) ?_ rfl rfl rfl rfl (by decide)
  intro g' L' h1' FG F2 N2 B2 X2 T2 D2
  k_steps
  refine R.notin_bytes (by rfl) ?_
  intro h3' tk1 hk1
  rw [R.contains_ints hs, decide_eq_true (show ((32 : UInt8).toNat : Int) ∈ ss from h32)]
  have F3 := F2.keeps hk1
  have N3 : News g' L' h3' [] := News.nil
  clear N2 F2
  k_steps
  refine Stop.out ?_
  refine' (scrub_b_ct w b ta).use B2 F3 X2 N3 T2 rfl trivial ?hd ?hu ?_
  case hd => dsimp only [ktrTop, Around.deeper]; omega
  case hu => dsimp only [ktrTop, Around.deeper]; omega
  rintro v nw h' tk' ⟨rfl, rfl⟩ k1 fr1 F4 N4
  clear F3 N3
  k_steps
  refine Stop.out ?_
  rename Fr g' L' _ _ => F4
  rename News g' L' _ _ => N4
  refine' (map_ct w sg ss tb hs (by omega)).use B2 F4 X2 N4 T2 rfl trivial ?hd ?hu ?_
  case hd => dsimp only [ktrTop, Around.deeper]; omega
  case hu => dsimp only [ktrTop, Around.deeper]; omega
  rintro v nw h' tk' ⟨D, o, kvs, rfl, rfl, lo, hdo, hf⟩ k2 fr2 F5 N5
  clear F4 N4
  k_steps
  refine Stop.out ?_
  rename Fr g' L' _ _ => F6
  rename News g' L' _ _ => N6
  refine For_invVF F6 (by rfl) (by rfl) ?_
  k_steps
  refine Stop.out ?_
  rename Fr g' L' _ _ => F6
  rename News g' L' _ _ => N6
  refine KBmo.iter_bytesN (fun i m nw => nw = [(D, o)] ∧ (∀ x ∈ ks.take i, x ∈ ss) ∧ ∃ t t2 dec, m "decimal" = some (.int dec t) ∧ m "map" = some (.ref D) ∧ m "base" = some (.int (ss.length : Int) t2)) hb (by rfl) F6 N6 ⟨rfl, by simp, _, _, _, rfl, rfl, rfl⟩ ?_ ?_
  · rintro i k t m₂ nx2 h4 tk4 own2 hk hk0 hk1 hoff2 ⟨rfl, hpre2, t3, t4, dec, e1, e2, e3⟩ F8 N8
    have F9 := fr_turn [("decimal", .int dec t3), ("map", .ref D), ("base", .int (ss.length : Int) t4)] (by simp [e1, e2, e3]) F8
    clear F6 N6 F8
    have hmem : k ∈ ks := List.mem_of_getElem? hk
    by_cases hin : k ∈ ss
    · have hhas : kdfHas (R.invI ss ss.length) k = true := (inv_has (Nat.le_refl _)).mpr (by rw [List.take_length]; exact hin)
      k_steps
      rename Fr g' L' _ _ => F5
      rename News g' L' _ _ => N5
      refine InvEndN.intro F5 N5 ⟨rfl, ?_, _, _, _, rfl, rfl, rfl⟩ rfl (fun p hp => List.mem_append_left _ hp) (fun p hp => List.mem_append_right _ hp)
      intro x hx
      rw [List.take_add_one, hk] at hx
      rcases List.mem_append.mp hx with hx | hx
      · exact hpre2 x hx
      · simp at hx
        rw [hx]
        exact hin
    · have hhas : kdfHas (R.invI ss ss.length) k = false := by
        cases e : kdfHas (R.invI ss ss.length) k with
        | false => rfl
        | true => exact absurd (by have := (inv_has (Nat.le_refl _)).mp e; rw [List.take_length] at this; exact this) hin
      have hlk : PySem.Spec.lookup (PyData.int k) (kdfD (R.invI ss ss.length)) = none := kdfD_none hhas
      k_steps
      refine getItem_tab_missing PyProof.V.same_int (intKind_is _ _ _ _) (TabAt.ofNews N8 (.head _) lo hdo hf) (by rfl) hlk ?_
      intro h5 e5 x5
      refine caught_first x5 F9 B2 X T D2 (by k_is) PyProof.Rows.Boot.«KeyError» (by decide) kr_isExc_KeyError kr_notTuple_KeyError (by rw [isSubtype_type]; kernel_rfl) ?_
      intro h6 g6 tk6 oe a0 T6 KT F10 N10 hoe B10 X10 P10 D10
      refine wpAny_execs_cons ?_
      refine Raise_none PySem.F.excCall_ValueError PySem.F.excRaise_ValueError (o1 := oe) rfl (N10 _ (.head _)).1 hoe (fun Q' q => name_B F10 X10 (topRead_of P10) (by k_is) PyProof.Rows.Boot.«ValueError» (by decide) q) ?_
      intro h11 tk11 e2 hx2
      refine out_anew hx2 F10 B10 (fun h12 tk12 R1 R2 U => ?_) rfl rfl
      have R3 := raised_back KT R1
      have U3 := up_back KT U
      refine caught_SN0 R3 FG B1 U3 X T D1 KtsTurn.refl (by k_is) PyProof.Rows.Boot.«ValueError» (by decide) PySem.F.isExc_ValueError PySem.F.notTuple_ValueError (by rw [isSubtype_type]; kernel_rfl) ?_
      intro h13 g13 T13 F13 N13 B13 X13 P13 D13
      k_steps
      exact hret _ _ (by assumption) (by assumption)
  · rintro m₂ nx2 h4 tk4 ⟨rfl, hpre2, t3, t4, dec, e1, e2, e3⟩ F8 N8
    rw [List.take_length] at hpre2
    exact absurd hpre2 hno
end Mine
-- Q3
namespace Mine
theorem mul89 : ∀ d : Nat, d < 89 → ∀ m : Nat, m < 89 → d ≠ 0 → m ≠ 0 → (d * m) % 89 ≠ 0 := by decide +kernel
theorem row_inj {a d i j : Int} (hd : 1 ≤ d ∧ d ≤ 88) (hi : 0 ≤ i) (hij : i < j) (hj : j ≤ 88) : 38 + (a + d * i) % 89 ≠ 38 + (a + d * j) % 89 := by
  intro e
  have e1 : (a + d * i) % 89 = (a + d * j) % 89 := by omega
  have e2 : ((a + d * j) - (a + d * i)) % 89 = 0 := by omega
  have e3 : (a + d * j) - (a + d * i) = d * (j - i) := by
    rw [Int.mul_sub]
    omega
  rw [e3] at e2
  obtain ⟨D, rfl⟩ := Int.eq_ofNat_of_zero_le (show 0 ≤ d by omega)
  obtain ⟨m, hm⟩ := Int.eq_ofNat_of_zero_le (show 0 ≤ j - i by omega)
  rw [hm] at e2
  refine mul89 D (by omega) m (by omega) (by omega) (by omega) ?_
  exact_mod_cast e2
theorem row_nodup {a d : Int} {n : Nat} (hd : 1 ≤ d ∧ d ≤ 88) (hn : n ≤ 89) : ((rangeKs 0 n).map fun k => 38 + (a + d * k) % 89).Nodup := by
  rw [List.nodup_iff_pairwise_ne]
  unfold rangeKs
  rw [List.map_map, List.pairwise_map]
  refine List.Pairwise.imp_of_mem ?_ List.pairwise_lt_range
  intro i j hi hj hlt
  have := List.mem_range.mp hj
  exact row_inj (i := 0 + (i : Int)) (j := 0 + (j : Int)) hd (by omega) (by omega) (by omega)
theorem sigR_nodup (a0 a1 a2 : Int) : (sigR a0 a1 a2).Nodup := by
  unfold sigR
  have h2 := emod_in (a := a0) (show (0 : Int) < 40 by decide)
  have h1 := emod_in (a := a2) (show (0 : Int) < 88 by decide)
  exact row_nodup (by omega) (by omega)
theorem insAt_perm (row : List Int) (p x : Int) : (insAt row p x).Perm (x :: row) := by
  unfold insAt
  refine List.perm_middle.trans ?_
  rw [List.take_append_drop]
theorem insAt_len (row : List Int) (p x : Int) : (insAt row p x).length = row.length + 1 := (insAt_perm row p x).length_eq
theorem insAt_nodup {row : List Int} {p x : Int} (h : row.Nodup) (hx : x ∉ row) : (insAt row p x).Nodup := (insAt_perm row p x).nodup_iff.mpr (List.nodup_cons.mpr ⟨hx, h⟩)
theorem insAt_mem {row : List Int} {p x y : Int} : y ∈ insAt row p x ↔ y = x ∨ y ∈ row := by
  rw [(insAt_perm row p x).mem_iff, List.mem_cons]
/-- the alphabet of the law -/
def GoodS (ss : List Int) : Prop := 3 ≤ ss.length ∧ ss.length ≤ 43 ∧ ss.Nodup ∧ (32 : Int) ∈ ss ∧ ∀ x ∈ ss, x = 9 ∨ x = 32 ∨ (38 ≤ x ∧ x ≤ 126)
theorem sigs_good (a0 a1 a2 a3 a4 : Int) : GoodS (sigs a0 a1 a2 a3 a4) := by
  have hl := sigR_len a0 a1 a2
  have hin := sigR_in a0 a1 a2
  have hS : (sigS a0 a1 a2 a3).length = (sigR a0 a1 a2).length + 1 := insAt_len _ _ _
  have hSn : (sigS a0 a1 a2 a3).Nodup := insAt_nodup (sigR_nodup _ _ _) fun h => by
    have := hin _ h
    omega
  have hSm : (32 : Int) ∈ sigS a0 a1 a2 a3 := insAt_mem.mpr (.inl rfl)
  have hSa : ∀ x ∈ sigS a0 a1 a2 a3, x = 32 ∨ (38 ≤ x ∧ x ≤ 126) := fun x hx => (insAt_mem.mp hx).imp id (hin x)
  unfold sigs
  split
  · refine ⟨by rw [insAt_len]; omega, by rw [insAt_len]; omega, insAt_nodup hSn fun h => ?_, insAt_mem.mpr (.inr hSm), fun x hx => (insAt_mem.mp hx).imp id (hSa x)⟩
    have := hSa _ h
    omega
  · exact ⟨by omega, by omega, hSn, hSm, fun x hx => .inr (hSa x hx)⟩
theorem dig_led {b : Nat} (hb : 2 ≤ b) : ∀ n : Nat, dig b n = (ledN b n).reverse := by
  intro n
  induction n using Nat.strongRecOn with
  | ind n ih =>
    by_cases hn : n = 0
    · subst hn
      rw [dig_zero, ledN, dif_neg (by simp)]
      rfl
    · rw [dig_step hb hn, ledN, dif_pos ⟨hb, hn⟩, List.reverse_cons, ih _ (Nat.div_lt_self (by omega) (by omega))]
/-- the text of places -/
def txt (ss rs : List Int) : List Int := rs.map fun r => ss.getD r.toNat 0
theorem encI_led {ss : List Int} (h2 : 2 ≤ ss.length) (n : Int) : encI ss n = txt ss (ledI (ss.length : Int) n).reverse := by
  unfold encI txt ledI
  rw [dig_led h2, ← List.map_reverse, List.map_map, Int.toNat_natCast]
  exact List.map_congr_left fun d _ => rfl
theorem txt_drop (ss rs : List Int) (n : Nat) : (txt ss rs).drop n = txt ss (rs.drop n) := by
  unfold txt
  rw [List.map_drop]
theorem txt_length (ss rs : List Int) : (txt ss rs).length = rs.length := List.length_map ..
theorem carr_led {old new : Int} (ho : 1 ≤ old) (hn : 2 ≤ new) : ∀ (n : Nat) (v c : Int), v.toNat = n → 0 ≤ v → 0 ≤ c → carr old new (ledI new v) c = ledI new (v * old + c) := by
  intro n
  induction n using Nat.strongRecOn with
  | ind n ih =>
    intro v c hvn hv hc
    by_cases h0 : v = 0
    · subst h0
      rw [ledI_zero (Int.le_refl _), Int.zero_mul, Int.zero_add]
      rfl
    · have hvp : 0 < v := by omega
      have hpos : 0 < v * old + c := by
        have := Int.mul_pos hvp (show 0 < old by omega)
        omega
      rw [ledI_step hn hvp, ledI_step hn hpos]
      have hq := emod_in (a := v) (show (0 : Int) < new by omega)
      have hd0 : 0 ≤ v / new := Int.ediv_nonneg hv (by omega)
      have hlt : (v / new).toNat < n := by
        have h1 : v / new < v := Int.ediv_lt_self_of_pos_of_ne_one hvp (by omega) |> fun h => h
        omega
      have hm0 : 0 ≤ v % new * old := Int.mul_nonneg hq.1 (by omega)
      have hc2 : 0 ≤ (c + v % new * old) / new := Int.ediv_nonneg (by omega) (by omega)
      have e : v * old + c = (c + v % new * old) + new * (v / new * old) := by
        have h1 := Int.mul_ediv_add_emod v new
        have h2 : v * old = (new * (v / new) + v % new) * old := by rw [h1]
        rw [h2, Int.add_mul, Int.mul_assoc]
        omega
      show (c + v % new * old) % new :: carr old new (ledI new (v / new)) ((c + v % new * old) / new) = _
      rw [ih _ hlt (v / new) _ rfl hd0 hc2, e, Int.add_mul_emod_self_left, Int.add_mul_ediv_left _ _ (by omega), Int.add_comm (v / new * old)]
theorem fold_led {old new : Int} (ho : 1 ≤ old) (hn : 2 ≤ new) : ∀ (ks : List Int) (a : Int), (∀ k ∈ ks, 0 ≤ k) → 0 ≤ a → List.foldl (carr old new) (ledI new a) ks = ledI new (ks.foldl (fun a k => a * old + k) a)
  | [], _, _, _ => rfl
  | k :: r, a, hk, ha => by
    have h1 := hk k (.head _)
    have h2 := Int.mul_nonneg ha (show 0 ≤ old by omega)
    rw [List.foldl_cons, List.foldl_cons, carr_led ho hn _ a k rfl ha h1]
    exact fold_led ho hn r _ (fun x hx => hk x (.tail _ hx)) (by omega)
theorem carried_led {old new : Int} (ho : 1 ≤ old) (hn : 2 ≤ new) {ks : List Int} (hk : ∀ k ∈ ks, 0 ≤ k) : List.foldl (carr old new) [] ks = ledI new (digNum ks old) := by
  have := fold_led ho hn ks 0 hk (Int.le_refl _)
  rw [ledI_zero (Int.le_refl _)] at this
  exact this
theorem last_keep {ks : List Int} (h : ∀ x, ks.getLast? = some x → R.spaceI x = false) : (ks.reverse.dropWhile R.spaceI).reverse = ks := by
  cases e : ks.reverse with
  | nil =>
    have : ks = [] := List.reverse_eq_nil_iff.mp e
    rw [this]
    rfl
  | cons x r =>
    have hx : R.spaceI x = false := h x (by rw [← List.head?_reverse, e]; rfl)
    rw [List.dropWhile_cons_of_neg (by rw [hx]; decide), ← e, List.reverse_reverse]
section
variable {ss rs : List Int} (hnd : ss.Nodup) (h2 : 2 ≤ ss.length) (hr : ∀ r ∈ rs, 0 ≤ r ∧ r < (ss.length : Int))
include hnd h2 hr
theorem txt_rk : (txt ss rs).map (rk ss) = rs := by
  unfold txt
  rw [List.map_map]
  conv => rhs; rw [← List.map_id rs]
  refine List.map_congr_left fun r hx => ?_
  have := hr r hx
  show rk ss (ss.getD r.toNat 0) = r
  rw [rk_get hnd (by omega)]
  omega
theorem txt_rank : rankNum ss (txt ss rs) = digNum rs (ss.length : Int) := by
  show digNum ((txt ss rs).map (rk ss)) (ss.length : Int) = _
  rw [txt_rk hnd h2 hr]
theorem txt_mem : ∀ x ∈ txt ss rs, x ∈ ss := by
  intro x hx
  unfold txt at hx
  obtain ⟨r, hm, rfl⟩ := List.mem_map.mp hx
  have := hr r hm
  have h0 : r.toNat < ss.length := by omega
  rw [List.getD_eq_getElem?_getD, List.getElem?_eq_getElem h0]
  exact List.getElem_mem h0
theorem enc_txt : encI ss (digNum rs (ss.length : Int)) = txt ss (rs.drop (nough rs)) := by
  rw [encI_led h2, ← digNum_drop, led_num (by omega) _ _ rfl (fun k hk => hr k (List.mem_of_mem_drop hk)) (drop_nough_head rs)]
end
theorem txt_lead {ss : List Int} (hnd : ss.Nodup) (h2 : 2 ≤ ss.length) : ∀ {rs : List Int}, (∀ r ∈ rs, 0 ≤ r ∧ r < (ss.length : Int)) → lead (ss.getD 0 0) (txt ss rs) = nough rs
  | [], _ => rfl
  | r :: t, hr => by
    have hr0 := hr r (.head _)
    have ih := txt_lead hnd h2 (rs := t) fun x hx => hr x (.tail _ hx)
    by_cases h : r = 0
    · subst h
      have e1 : lead (ss.getD 0 0) (txt ss (0 :: t)) = lead (ss.getD 0 0) (txt ss t) + 1 := by simp [lead, txt]
      rw [e1, nough_zero, ih]
    · have hne : ss.getD r.toNat 0 ≠ ss.getD 0 0 := by
        intro e
        have h1 := rk_get hnd (i := r.toNat) (by omega)
        rw [e, rk_first hnd h2] at h1
        omega
      have e1 : lead (ss.getD 0 0) (txt ss (r :: t)) = 0 := by
        unfold lead txt
        rw [List.map_cons, List.takeWhile_cons_of_neg (by simpa using hne)]
        rfl
      rw [e1, nough_pos h]
theorem dec_txt {ss rs : List Int} (hnd : ss.Nodup) (h2 : 2 ≤ ss.length) (hr : ∀ r ∈ rs, 0 ≤ r ∧ r < (ss.length : Int)) :
    List.replicate (lead (ss.getD 0 0) (txt ss rs)) 0 ++ (ledI 256 (rankNum ss ((txt ss rs).drop (lead (ss.getD 0 0) (txt ss rs))))).reverse = List.replicate (nough rs) 0 ++ (List.foldl (carr (ss.length : Int) 256) [] rs).reverse := by
  rw [txt_lead hnd h2 hr, txt_drop, txt_rank hnd h2 (fun r hx => hr r (List.mem_of_mem_drop hx)), digNum_drop, carried_led (by omega) (by decide) fun k hk => (hr k hk).1]
theorem wanted_enc {ss : List Int} (h2 : 2 ≤ ss.length) {os : List Int} (ho : ∀ k ∈ os, 0 ≤ k) : txt ss (List.foldl (carr 256 (ss.length : Int)) [] os).reverse = encI ss (digNum os 256) := by
  rw [carried_led (by decide) (by omega) ho, encI_led h2]
end Mine
-- Q4
namespace Mine
theorem filter_one (j : Nat) : ∀ n : Nat, j < n → (List.range n).filter (fun i => decide (i = j)) = [j] := by
  have key : ∀ n : Nat, n ≤ j → (List.range n).filter (fun i => decide (i = j)) = [] := fun n hn => by
    rw [List.filter_eq_nil_iff]
    intro a ha
    have := List.mem_range.mp ha
    simp
    omega
  intro n
  induction n with
  | zero => intro h; omega
  | succ n ih =>
    intro h
    rw [List.range_succ, List.filter_append]
    by_cases e : n = j
    · subst e
      rw [key n (Nat.le_refl _)]
      simp
    · rw [ih (by omega)]
      simp [e]
theorem blank_list {ss : List Int} (hnd : ss.Nodup) (h32 : (32 : Int) ∈ ss) : ∃ j : Nat, j < ss.length ∧ ss.getD j 0 = 32 ∧ List.foldl (fun (l' : List Int) k' => if 0 ≤ ss.getD k'.toNat 0 ∧ ss.getD k'.toNat 0 < 256 ∧ ss.getD k'.toNat 0 = 32 then l' ++ [k'] else if 0 ≤ ss.getD k'.toNat 0 ∧ ss.getD k'.toNat 0 < 256 then l' else l') [] (rangeKs 0 ((ss.length : Int) - 0).toNat) = [(j : Int)] := by
  obtain ⟨j, hj, ej⟩ := List.getElem_of_mem h32
  have ej' : ss.getD j 0 = 32 := by rw [List.getD_eq_getElem?_getD, List.getElem?_eq_getElem hj]; exact ej
  refine ⟨j, hj, ej', ?_⟩
  have key : ∀ (ks l : List Int), List.foldl (fun (l' : List Int) k' => if 0 ≤ ss.getD k'.toNat 0 ∧ ss.getD k'.toNat 0 < 256 ∧ ss.getD k'.toNat 0 = 32 then l' ++ [k'] else if 0 ≤ ss.getD k'.toNat 0 ∧ ss.getD k'.toNat 0 < 256 then l' else l') l ks = l ++ ks.filter (fun k => decide (ss.getD k.toNat 0 = 32)) := by
    intro ks
    induction ks with
    | nil => intro l; simp
    | cons k r ih =>
      intro l
      rw [List.foldl_cons, ih]
      by_cases h : ss.getD k.toNat 0 = 32
      · rw [if_pos ⟨by omega, by omega, h⟩, List.filter_cons_of_pos (by simpa using h), List.append_assoc]
        rfl
      · rw [if_neg (fun q => h q.2.2), ite_self, List.filter_cons_of_neg (by simpa using h)]
  rw [key, List.nil_append]
  unfold rangeKs
  have e1 : ((ss.length : Int) - 0).toNat = ss.length := by omega
  rw [e1, List.filter_map]
  have e2 : (List.range ss.length).filter ((fun k : Int => decide (ss.getD k.toNat 0 = 32)) ∘ fun i : Nat => 0 + (i : Int)) = (List.range ss.length).filter (fun i => decide (i = j)) := by
    refine List.filter_congr fun i hi => ?_
    have hi' := List.mem_range.mp hi
    have e3 : (0 + (i : Int)).toNat = i := by omega
    simp only [Function.comp, e3]
    by_cases h : i = j
    · subst h
      rw [ej']
      simp
    · have : ss.getD i 0 ≠ 32 := by
        intro q
        refine h (nodup_inj hnd hi' hj ?_)
        rw [ej]
        rw [List.getD_eq_getElem?_getD, List.getElem?_eq_getElem hi'] at q
        exact q
      rw [decide_eq_false this, decide_eq_false h]
  rw [e2, filter_one j _ hj]
  simp
theorem ints_one {ys : List Value} {j : Int} (h : IntsAre ys [j]) : ∃ t, ys = [.int j t] :=
  match ys, h with
  | _, .cons _ t r => match r with
    | .nil => ⟨t, rfl⟩
theorem plain_ints {a : Array Nat} {ks : List Int} (h : a.toList = ks.map Int.toNat) (hk : ∀ k ∈ ks, 0 ≤ k ∧ k < 256) : KBw.bInts (a.map fun c => c.toUInt8) = ks := by
  unfold KBw.bInts
  rw [Array.toList_map, h, List.map_map, List.map_map]
  conv => rhs; rw [← List.map_id ks]
  refine List.map_congr_left fun k hx => ?_
  have := hk k hx
  show ((k.toNat.toUInt8).toNat : Int) = k
  have e : k.toNat.toUInt8.toNat = k.toNat := by
    rw [Nat.toUInt8_eq, UInt8.toNat_ofNat_of_lt' (by show k.toNat < 256; omega)]
  rw [e]
  omega
theorem flat_rep1 (n : Nat) (j : Int) : (List.replicate n [j]).flatten = List.replicate n j := by
  induction n with
  | zero => rfl
  | succ n ih => simp
theorem rep32 (n : Nat) : KBw.bInts (List.replicate n [(32 : UInt8)]).flatten.toArray = List.replicate n 32 := by
  unfold KBw.bInts
  show List.map _ (List.replicate n [(32 : UInt8)]).flatten = _
  induction n with
  | zero => rfl
  | succ n ih =>
    rw [List.replicate_succ, List.flatten_cons, List.map_append, ih, List.replicate_succ]
    rfl
theorem mul_sp (mo : Nat) (h1 : 1 ≤ mo) (h3 : mo ≤ 3) : (PySem.Txt.mul (PySem.Str.ofString " ") (mo : Int)).cps.toList = List.replicate mo 32 := by
  have : mo = 1 ∨ mo = 2 ∨ mo = 3 := by omega
  rcases this with rfl | rfl | rfl <;> rfl
theorem strange_in : ∀ n : Nat, n < 4 → ([1, 200, 33, 0] : List Int).getD n 0 = 1 ∨ ([1, 200, 33, 0] : List Int).getD n 0 = 200 ∨ ([1, 200, 33, 0] : List Int).getD n 0 = 33 ∨ ([1, 200, 33, 0] : List Int).getD n 0 = 0 := by decide
theorem tup_in {h : Heap} {K : Frag} {a : Addr} {od : Option Addr} {sl : Array (Option Value)} {items : Array Value} {n : Nat} (X : K.In h) (hk : K.lookup a = some ⟨.type "tuple", od, .seq items n, sl⟩) : IsTup h a items := ⟨_, X _ _ hk, rfl, n, rfl⟩
theorem led_len {new : Int} (hn : 2 ≤ new) {k : Nat} {v : Int} (h0 : 0 ≤ v) (h : v < 2 ^ k) : (ledI new v).length ≤ k := by
  unfold ledI
  have e := dig_led (b := new.toNat) (by omega) v.toNat
  have e2 : (ledN new.toNat v.toNat).length = (dig new.toNat v.toNat).length := by
    rw [e, List.length_reverse]
  rw [List.length_map, e2]
  refine dig_len (by omega) k _ ?_
  have : ((v.toNat : Nat) : Int) < ((2 ^ k : Nat) : Int) := by
    rw [Int.toNat_of_nonneg h0]
    exact_mod_cast h
  exact_mod_cast this
theorem carried_len {old new : Int} (ho : 1 ≤ old) (ho2 : old ≤ 256) (hn : 2 ≤ new) {ks : List Int} (hk : ∀ k ∈ ks, 0 ≤ k ∧ k < old) (hl : ks.length ≤ 12) : (List.foldl (carr old new) [] ks).length ≤ 96 := by
  rw [carried_led ho hn fun k h => (hk k h).1]
  refine led_len hn (digNum_nonneg (by omega) fun k h => (hk k h).1) ?_
  have h1 := digNum_lt (b := old) ho hk
  obtain ⟨o, rfl⟩ := Int.eq_ofNat_of_zero_le (show 0 ≤ old by omega)
  have h2 : (o : Int) ^ ks.length ≤ 256 ^ 12 := by
    have a1 : o ^ ks.length ≤ 256 ^ ks.length := Nat.pow_le_pow_left (by omega) _
    have a2 : 256 ^ ks.length ≤ 256 ^ 12 := Nat.pow_le_pow_right (by decide) hl
    exact_mod_cast Nat.le_trans a1 a2
  have h3 : (256 : Int) ^ 12 = 2 ^ 96 := by decide +kernel
  omega
theorem spS_no : ∀ c : Nat, c < 127 → 38 ≤ c → spS ⟨#[c]⟩ = false := by decide +kernel
theorem rstrip_keep {x : PySem.Str} (hA : ∀ c ∈ x.cps.toList, c < 128) (h : ∀ c, x.cps.toList.getLast? = some c → 38 ≤ c ∧ c < 127) : Txt.rstrip x = x := by
  obtain ⟨hi, h1, h2, h3, _⟩ := rstrip_cut hA
  have e : hi = x.length := by
    by_cases q : hi = x.length
    · exact q
    · exfalso
      have hlt : x.length - 1 < x.cps.toList.length := by
        show _ < x.cps.toList.length
        rw [Array.length_toList]
        show x.length - 1 < x.length
        omega
      have h4 := h3 (x.length - 1) (by omega) (by omega)
      have h5 := h (x.cps.toList[x.length - 1]'hlt) (by
        rw [List.getLast?_eq_getElem?, Array.length_toList]
        exact List.getElem?_eq_getElem hlt)
      have h6 : x.cps.getD (x.length - 1) 0 = x.cps.toList[x.length - 1]'hlt := by
        have hlt' : x.length - 1 < x.cps.size := by rw [← Array.length_toList]; exact hlt
        rw [Array.getD_eq_getD_getElem?, Array.getElem?_eq_getElem hlt']
        simp
      rw [h6, spS_no _ h5.2 h5.1] at h4
      cases h4
  rw [h2, e]
  exact strSub_whole x
theorem byte_ints {ks : List Int} (h : ∀ k ∈ ks, 0 ≤ k ∧ k < 256) : KBw.bInts (byteArr ks) = ks := KBa.ints_make h
end Mine
-- LA
namespace Mine
local macro_rules | `(tactic| walk_at "none") => `(tactic| fail)
local macro_rules | `(tactic| walk_at "none") => `(tactic| fail)
local macro_rules | `(tactic| walk_at "none") => `(tactic| fail)
local macro_rules | `(tactic| walk_at "none") => `(tactic| fail)
local macro_rules | `(tactic| walk_at "none") => `(tactic| fail)
local macro_rules | `(tactic| walk_at "none") => `(tactic| fail)
local macro_rules | `(tactic| walk_at "none") => `(tactic| fail)
local macro_rules | `(tactic| walk_at "none") => `(tactic| fail)
theorem fresh_walk_LA : True := by
 w_top off
 trivial
local macro_rules | `(tactic| walk1) => `(tactic| ((with_reducible show wpAny _ _ (exec (Stmt.While _ _ _ _) _) _ _ _); refine Stop.into ?_))
local macro_rules | `(tactic| walk1) => `(tactic| ((with_reducible show wpAny _ _ (exec (Stmt.For _ _ _ _ _) _) _ _ _); refine Stop.into ?_))
local macro_rules | `(tactic| walk1) => `(tactic| ((with_reducible show wpAny _ _ (pyIter _) _ _ _); refine Stop.into ?_))
local macro_rules | `(tactic| walk1) => `(tactic| ((with_reducible show wpAny _ _ (call (Value.ref _) _ _) _ _ _); refine Stop.into ?_))
local macro_rules | `(tactic| walk_at "getMethod bytes") => `(tactic| (with_reducible refine R.lstrip_method ?_))
local macro_rules | `(tactic| walk_at "getMethod bytes") => `(tactic| (with_reducible refine R.rstrip_method ?_))
local macro_rules | `(tactic| walk_at "getMethod str") => `(tactic| (with_reducible refine R.encode_method ?_))
local macro_rules | `(tactic| walk_at "call builtin:bytes.lstrip") => `(tactic| ((with_reducible show wpAny _ _ (call (Value.builtin "bytes.lstrip") [Value.bytes _ _, Value.bytes _ _]) _ _ _); (refine R.lstrip_call (by kba_ints2) (by kba_ints2) (by kba_size) ?_); intro _ _ _ hlst))
local macro_rules | `(tactic| walk_at "call builtin:bytes.rstrip") => `(tactic| ((with_reducible show wpAny _ _ (call (Value.builtin "bytes.rstrip") [Value.bytes _ _]) _ _ _); (refine R.rstrip_call (by kba_ints2) (by kba_size) ?_); intro _ _ _ hrst))
local macro_rules | `(tactic| walk_at "callWith ref") => `(tactic| (k_here; kfb_any; k_dflt (refine' R.fb_callWith ?hN ?hM ?ha ?_; (case hN => k_asm); (case hM => k_mem); (case ha => exact rfl); k_whole)))
local macro_rules | `(tactic| walk1) => `(tactic| ((with_reducible show wpAny _ _ (binaryOp Operator.Add (Value.bytes _ _) (Value.bytes _ _)) _ _ _); first | ((refine KBa.add_K (by kba_ints2) (by kba_ints2) (by ((try simp only [List.length_replicate, List.length_append, List.length_map, List.length_take, List.length_drop, List.length_cons, List.length_nil]); omega)) ?_); intro _ _ kbaApp) | (refine Stop.into ?_)))
local macro_rules | `(tactic| walk1) => `(tactic| ((with_reducible show wpAny _ _ (exec (Stmt.Assign _ (PySem.Expr.DictComp _ _ _ _ _) _) _) _ _ _); refine Stop.into ?_))
local macro_rules | `(tactic| walk1) => `(tactic| ((with_reducible show wpAny _ _ (call (Value.type "enumerate") _ _) _ _ _); refine Stop.into ?_))
local macro_rules | `(tactic| walk_at "eval Call") => `(tactic| ((with_reducible show wpAny _ _ (eval (PySem.Expr.Call (PySem.Expr.Name _ _) _ [] _) _) _ _ _); k_dflt (refine Call_ ?_)))
local macro_rules | `(tactic| walk1) => `(tactic| ((with_reducible show wpAny _ _ (execs (Stmt.For _ _ _ _ _ :: _) _) _ _ _); refine Stop.into ?_))
theorem lit {K : Frag} {P : Prop} {a : Addr} {ooc ooc' : Value} {ood ood' : Option Addr} {oosl oosl' : Array (Option Value)} {oname qual oname' qual' : PySem.Str} {params params' : Arguments} {body body' : List Stmt} {scope scope' : Scope} {dV kV doc pm cdv ct dV' kV' doc' pm' cdv' ct' : Value} {an an' : Option Addr}
    (h2 : K.lookup a = some ⟨ooc', ood', .func (fnOf oname' qual' params' body' scope' dV' kV' doc' pm' an' cdv' ct'), oosl'⟩) (h1 : K.lookup a = some ⟨ooc, ood, .func (fnOf oname qual params body scope dV kV doc pm an cdv ct), oosl⟩)
    (k : (⟨ooc, ood, .func (fnOf oname qual params body scope dV kV doc pm an cdv ct), oosl⟩ : Obj) = ⟨ooc', ood', .func (fnOf oname' qual' params' body' scope' dV' kV' doc' pm' an' cdv' ct'), oosl'⟩ → P) : P := k (Option.some.inj (h1.symm.trans h2))
theorem top_apply {prog : Program} {w : World} {K : Frag} {f : Addr} {qual : PySem.Str} {cdv : Value} {body : List Stmt} {scope : Scope} {binds : List (PySem.Str × Value)} {D : Nat} {pre : Heap → Prop} {Ret : Value → List (Addr × Obj) → Prop}
    {p : Program} {loose : List PySem.Str} {mean : ExcName → Option Value} {mg mb : PySem.Str → Option Value} {dp un : Nat} {gd : Option (List Code)} {outer : List Env} {A₀ : Around} {base g : Heap} {L : Addr} {s : Shared} {Q : Flow → Shared → Prop} {E : Value → Shared → Prop} {cells : List (Addr × Obj)}
    (h : BdC prog w K f qual cdv body scope binds D pre Ret) (B : Below A₀ base outer g) (F : Fr g L s.heap (bindL (envOfC qual scope L f cdv).kindOf binds fun _ => none)) (X : K.In g) (N : News g L s.heap cells)
    (Y : CellsAre (bindC (envOfC qual scope L f cdv).kindOf binds fun _ => none) (cellsFrom (L + 1) scope.names []) cells) (T : Top p loose mean mg mb g) (hp : pre g) (hd : dp + D < recursionLimit + 1) (hu : un + 20 * D < cLine + 3)
    (hret : ∀ v nw m' h' tk', Ret v nw → Fr g L h' m' → News g L h' nw → Q (.ret v) { s with heap := h', toks := tk' }) :
    wpAny (model prog w) (ktrTop dp un gd qual scope L f cdv (cellsFrom (L + 1) scope.names []) outer) (execs body (envOfC qual scope L f cdv)) Q E s :=
  wpAny_mono (h p loose mean mg mb dp un gd outer A₀ base g L s Q cells B F X N Y T hp hd hu hret) (fun _ _ x => x) fun _ _ x => x.elim
theorem news_drop2 {h₀ h : Heap} {L : Addr} {a b : Addr × Obj} {r : List (Addr × Obj)} (N : News h₀ L h (a :: b :: r)) : News h₀ L h (a :: r) := news_sub N fun p hp => by
  rcases List.mem_cons.mp hp with rfl | hp
  · exact .head _
  · exact .tail _ (.tail _ hp)
theorem name_third {P : Prop} {h₀ h : Heap} {L : Addr} {a b : Addr × Obj} {c : Addr} {o : Obj} (_ : News h₀ L h [a, b, (c, o)]) (k : ∀ x, x = o → P) : P := k o rfl
theorem bytes_eq {a b : Array UInt8} (h : KBw.bInts a = KBw.bInts b) : a.toList = b.toList := by
  unfold KBw.bInts at h
  exact List.map_inj_right (fun x y e => UInt8.toNat_inj.mp (by exact_mod_cast e)) |>.mp h
theorem piece_a {w : World} {ooc : Value} {ood : Option Addr} {oosl : Array (Option Value)} {oname qual : PySem.Str} {params : Arguments} {body : List Stmt} {scope : Scope} {dV kV doc pm cdv ct : Value} {an : Option Addr}
    (ho : (Mine.hd.heap_39 w.params).lookup 119 = some ⟨ooc, ood, .func (fnOf oname qual params body scope dV kV doc pm an cdv ct), oosl⟩) {st : List Stmt} (hst : st = body.drop 0)
    {p : Program} {loose : List PySem.Str} {mean : ExcName → Option Value} {mg mb : PySem.Str → Option Value} {dp un : Nat} {gd : Option (List Code)} {fa : Addr} {cd : Value} {A₀ : Around} {g : Heap} {L : Addr} {s : Shared} {Q : Flow → Shared → Prop} {m0 : PySem.Str → Option Value}
    (B : Below A₀ g [] g) (X : (Mine.hd.heap_39 w.params).In g) (T : Top p loose mean mg mb g) (hd : dp + 40 < recursionLimit + 1) (hu : un + 20 * 40 < cLine + 3)
    {l : Addr} {vs : List Value} {ns : List Int} (hL : g.IsList l vs.toArray) (hI : IntsAre vs ns) (hn : ns.length < 64)
    {oA oB : Obj} (dA : oA.data = .cell (some (.ref l))) (dB : oB.data = .cell none)
    (F : Fr g L s.heap m0) (N : News g L s.heap [(L + 1 + 1, oB), (L + 1, oA)])
    (rest : ∀ (h9 : Heap) (tk9 : Nat) (m9 : PySem.Str → Option Value) (oB : Obj) (sg : Array UInt8) (tsg : Tok) (ss : List Int) (j : Nat) (R0 : Addr) (tb tj : Nat), oB.data = .cell (some (.bytes sg tsg)) → KBw.bInts sg = ss → GoodS ss → j < ss.length → ss.getD j 0 = 32 → Fr g L h9 (kstB m9 [("base", .int (ss.length : Int) tb), ("blank", .int (j : Int) tj), ("ranks", .ref R0)]) → News g L h9 [(R0, listOf #[] 0), (L + 1 + 1, oB), (L + 1, oA)] → L + 1 + 1 < R0 ∧ L + 1 < R0 → wpAny (model (PySem.Challenge.rw_eg5003_01.row.prog) w) (ktrTop dp un gd qual scope L fa cd (cellsFrom (L + 1) scope.names []) []) (execs (body.drop 4) (envOfC qual scope L fa cd)) Q (fun _ _ => False) { s with heap := h9, toks := tk9 })
    : wpAny (model (PySem.Challenge.rw_eg5003_01.row.prog) w) (ktrTop dp un gd qual scope L fa cd (cellsFrom (L + 1) scope.names []) []) (execs st (envOfC qual scope L fa cd)) Q (fun _ _ => False) s := by
  revert X
  k_fill
  intro X
  refine lit (by k_is) ho ?_
  intro e
  cases e
  clear ho
  subst hst
  change wpAny _ _ (execs (_ :: _) _) _ _ _
  k_steps
  refine Stop.out ?_
  rename Fr _ _ _ _ => F1
  rename News _ _ _ _ => N1
  refine' (draw_ct w l vs ns 0 _ hI hn).use B F1 X N1 T rfl (hL.at fun o e => F1.keep l o e) ?hd ?hu ?_
  case hd => omega
  case hu => omega
  rintro v nw h' tk' ⟨rfl, ta0, rfl⟩ kz frz F2 N2
  clear kz frz F1 N1
  try simp only [List.nil_append, List.append_nil] at N2
  k_steps
  refine Stop.out ?_
  rename Fr _ _ _ _ => F1
  rename News _ _ _ _ => N1
  refine' (draw_ct w l vs ns 1 _ hI hn).use B F1 X N1 T rfl (hL.at fun o e => F1.keep l o e) ?hd ?hu ?_
  case hd => omega
  case hu => omega
  rintro v nw h' tk' ⟨rfl, ta1, rfl⟩ kz frz F2 N2
  clear kz frz F1 N1
  try simp only [List.nil_append, List.append_nil] at N2
  k_steps
  refine Stop.out ?_
  rename Fr _ _ _ _ => F1
  rename News _ _ _ _ => N1
  refine' (draw_ct w l vs ns 2 _ hI hn).use B F1 X N1 T rfl (hL.at fun o e => F1.keep l o e) ?hd ?hu ?_
  case hd => omega
  case hu => omega
  rintro v nw h' tk' ⟨rfl, ta2, rfl⟩ kz frz F2 N2
  clear kz frz F1 N1
  try simp only [List.nil_append, List.append_nil] at N2
  k_steps
  refine Stop.out ?_
  rename Fr _ _ _ _ => F1
  rename News _ _ _ _ => N1
  refine' (draw_ct w l vs ns 3 _ hI hn).use B F1 X N1 T rfl (hL.at fun o e => F1.keep l o e) ?hd ?hu ?_
  case hd => omega
  case hu => omega
  rintro v nw h' tk' ⟨rfl, ta3, rfl⟩ kz frz F2 N2
  clear kz frz F1 N1
  try simp only [List.nil_append, List.append_nil] at N2
  k_steps
  refine Stop.out ?_
  rename Fr _ _ _ _ => F1
  rename News _ _ _ _ => N1
  refine' (draw_ct w l vs ns 4 _ hI hn).use B F1 X N1 T rfl (hL.at fun o e => F1.keep l o e) ?hd ?hu ?_
  case hd => omega
  case hu => omega
  rintro v nw h' tk' ⟨rfl, ta4, rfl⟩ kz frz F2 N2
  clear kz frz F1 N1
  try simp only [List.nil_append, List.append_nil] at N2
  k_steps
  refine Stop.out ?_
  rename Fr _ _ _ _ => F1
  rename News _ _ _ _ => N1
  refine' (signs_ct w (draw ns 0) (draw ns 1) (draw ns 2) (draw ns 3) (draw ns 4) _ _ _ _ _).use B F1 X N1 T rfl (trivial) ?hd ?hu ?_
  case hd => omega
  case hu => omega
  rintro v nw h' tk' ⟨rfl, sg, tsg, rfl, hsg⟩ kz frz F2 N2
  clear kz frz F1 N1
  try simp only [List.nil_append, List.append_nil] at N2
  have hS := sigs_good (draw ns 0) (draw ns 1) (draw ns 2) (draw ns 3) (draw ns 4)
  generalize sigs (draw ns 0) (draw ns 1) (draw ns 2) (draw ns 3) (draw ns 4) = ss at hsg hS
  obtain ⟨hs2, hs3, hnd, h32, hsa⟩ := id hS
  k_steps
  obtain ⟨j, hj, hj2, hbl⟩ := blank_list hnd h32
  rename List.length _ = List.length _ => hz
  rename IntsAre _ _ => hIb
  rename List.length _ ≤ Int.toNat _ => hz2
  clear hz hz2
  have hIb2 := hIb
  rw [hbl] at hIb2
  obtain ⟨tj, eyj⟩ := ints_one hIb2
  subst eyj
  clear hIb hIb2 hbl
  k_steps
  refine Stop.out ?_
  rename Fr _ _ _ _ => F1
  rename News _ _ _ _ => N1
  rename Obj.data _ = Data.cell (some (Value.bytes _ _)) => d2
  refine name_addr N1 ?_
  intro R0 hR
  subst hR
  rename _ < R0 ∧ L + 1 + 1 < R0 ∧ L + 1 < R0 => l1
  obtain ⟨tb, tj2, F9⟩ : ∃ tb tj2, Fr g L _ (kstB _ [("base", .int (ss.length : Int) tb), ("blank", .int (j : Int) tj2), ("ranks", .ref R0)]) := ⟨_, _, fr_pin [("base", .int (ss.length : Int) _), ("blank", .int (j : Int) _), ("ranks", .ref R0)] (by simp only [List.forall_mem_cons]; exact ⟨rfl, rfl, rfl, by simp⟩) F1⟩
  exact rest _ _ _ _ _ _ _ _ _ _ _ d2 hsg hS hj hj2 F9 (news_drop2 N1) l1.2
end Mine
-- LA2
namespace Mine
local macro_rules | `(tactic| walk_at "none") => `(tactic| fail)
local macro_rules | `(tactic| walk_at "none") => `(tactic| fail)
local macro_rules | `(tactic| walk_at "none") => `(tactic| fail)
local macro_rules | `(tactic| walk_at "none") => `(tactic| fail)
local macro_rules | `(tactic| walk_at "none") => `(tactic| fail)
local macro_rules | `(tactic| walk_at "none") => `(tactic| fail)
local macro_rules | `(tactic| walk_at "none") => `(tactic| fail)
theorem fresh_walk_LA2 : True := by
 w_top off
 trivial
local macro_rules | `(tactic| walk1) => `(tactic| ((with_reducible show wpAny _ _ (exec (Stmt.While _ _ _ _) _) _ _ _); refine Stop.into ?_))
local macro_rules | `(tactic| walk1) => `(tactic| ((with_reducible show wpAny _ _ (exec (Stmt.For _ _ _ _ _) _) _ _ _); refine Stop.into ?_))
local macro_rules | `(tactic| walk1) => `(tactic| ((with_reducible show wpAny _ _ (pyIter _) _ _ _); refine Stop.into ?_))
local macro_rules | `(tactic| walk1) => `(tactic| ((with_reducible show wpAny _ _ (call (Value.ref _) _ _) _ _ _); refine Stop.into ?_))
local macro_rules | `(tactic| walk_at "getMethod bytes") => `(tactic| (with_reducible refine R.lstrip_method ?_))
local macro_rules | `(tactic| walk_at "getMethod bytes") => `(tactic| (with_reducible refine R.rstrip_method ?_))
local macro_rules | `(tactic| walk_at "getMethod str") => `(tactic| (with_reducible refine R.encode_method ?_))
local macro_rules | `(tactic| walk_at "call builtin:bytes.lstrip") => `(tactic| ((with_reducible show wpAny _ _ (call (Value.builtin "bytes.lstrip") [Value.bytes _ _, Value.bytes _ _]) _ _ _); (refine R.lstrip_call (by kba_ints2) (by kba_ints2) (by kba_size) ?_); intro _ _ _ hlst))
local macro_rules | `(tactic| walk_at "call builtin:bytes.rstrip") => `(tactic| ((with_reducible show wpAny _ _ (call (Value.builtin "bytes.rstrip") [Value.bytes _ _]) _ _ _); (refine R.rstrip_call (by kba_ints2) (by kba_size) ?_); intro _ _ _ hrst))
local macro_rules | `(tactic| walk_at "callWith ref") => `(tactic| (k_here; kfb_any; k_dflt (refine' R.fb_callWith ?hN ?hM ?ha ?_; (case hN => k_asm); (case hM => k_mem); (case ha => exact rfl); k_whole)))
local macro_rules | `(tactic| walk1) => `(tactic| ((with_reducible show wpAny _ _ (binaryOp Operator.Add (Value.bytes _ _) (Value.bytes _ _)) _ _ _); first | ((refine KBa.add_K (by kba_ints2) (by kba_ints2) (by ((try simp only [List.length_replicate, List.length_append, List.length_map, List.length_take, List.length_drop, List.length_cons, List.length_nil]); omega)) ?_); intro _ _ kbaApp) | (refine Stop.into ?_)))
local macro_rules | `(tactic| walk1) => `(tactic| ((with_reducible show wpAny _ _ (exec (Stmt.Assign _ (PySem.Expr.DictComp _ _ _ _ _) _) _) _ _ _); refine Stop.into ?_))
local macro_rules | `(tactic| walk1) => `(tactic| ((with_reducible show wpAny _ _ (call (Value.type "enumerate") _ _) _ _ _); refine Stop.into ?_))
local macro_rules | `(tactic| walk_at "eval Call") => `(tactic| ((with_reducible show wpAny _ _ (eval (PySem.Expr.Call (PySem.Expr.Name _ _) _ [] _) _) _ _ _); k_dflt (refine Call_ ?_)))
local macro_rules | `(tactic| walk1) => `(tactic| ((with_reducible show wpAny _ _ (execs (Stmt.If _ _ _ _ :: _) _) _ _ _); refine Stop.into ?_))
local macro_rules | `(tactic| walk1) => `(tactic| ((with_reducible show wpAny _ _ (eval (PySem.Expr.ListComp _ _ _ _) _) _ _ _); refine Stop.into ?_))
local macro_rules | `(tactic| walk1) => `(tactic| ((with_reducible show wpAny _ _ (call (Value.builtin "list.append") _) _ _ _); refine Stop.into ?_))
theorem piece_a2 {w : World} {ooc : Value} {ood : Option Addr} {oosl : Array (Option Value)} {oname qual : PySem.Str} {params : Arguments} {body : List Stmt} {scope : Scope} {dV kV doc pm cdv ct : Value} {an : Option Addr}
    (ho : (Mine.hd.heap_39 w.params).lookup 119 = some ⟨ooc, ood, .func (fnOf oname qual params body scope dV kV doc pm an cdv ct), oosl⟩) {st : List Stmt} (hst : st = body.drop 4)
    {p : Program} {loose : List PySem.Str} {mean : ExcName → Option Value} {mg mb : PySem.Str → Option Value} {dp un : Nat} {gd : Option (List Code)} {fa : Addr} {cd : Value} {A₀ : Around} {g : Heap} {L : Addr} {s : Shared} {Q : Flow → Shared → Prop} {m0 : PySem.Str → Option Value}
    (B : Below A₀ g [] g) (X : (Mine.hd.heap_39 w.params).In g) (T : Top p loose mean mg mb g) (hd : dp + 40 < recursionLimit + 1) (hu : un + 20 * 40 < cLine + 3)
    {l : Addr} {vs : List Value} {ns : List Int} (hL : g.IsList l vs.toArray) (hI : IntsAre vs ns) (hn : ns.length < 64)
    {oA oB : Obj} (dA : oA.data = .cell (some (.ref l))) {sg : Array UInt8} {tsg : Tok} {ss : List Int} (dB : oB.data = .cell (some (.bytes sg tsg))) (hsg : KBw.bInts sg = ss) (hS : GoodS ss)
    {j : Nat} {R0 : Addr} {tb tj : Nat} (hj : j < ss.length) (hj2 : ss.getD j 0 = 32) (l1 : L + 1 + 1 < R0 ∧ L + 1 < R0) (F : Fr g L s.heap (kstB m0 [("base", .int (ss.length : Int) tb), ("blank", .int (j : Int) tj), ("ranks", .ref R0)])) (N : News g L s.heap [(R0, listOf #[] 0), (L + 1 + 1, oB), (L + 1, oA)])
    (rest : ∀ (h9 : Heap) (tk9 : Nat) (m9 : PySem.Str → Option Value) (rs : List Int) (us : List Value) (n0 : Nat) (tx : Array UInt8) (tt tnum : Nat), 1 ≤ rs.length → rs.length ≤ 12 → (∀ r ∈ rs, 0 ≤ r ∧ r < (ss.length : Int)) → IntsAre us rs → KBw.bInts tx = txt ss rs → Fr g L h9 (kstB m9 [("base", .int (ss.length : Int) tb), ("blank", .int (j : Int) tj), ("ranks", .ref R0), ("text", .bytes tx tt), ("number", .int (digNum rs (ss.length : Int)) tnum)]) → News g L h9 [(R0, listOf us.toArray n0), (L + 1 + 1, oB), (L + 1, oA)] → wpAny (model (PySem.Challenge.rw_eg5003_01.row.prog) w) (ktrTop dp un gd qual scope L fa cd (cellsFrom (L + 1) scope.names []) []) (execs (body.drop 7) (envOfC qual scope L fa cd)) Q (fun _ _ => False) { s with heap := h9, toks := tk9 })
    : wpAny (model (PySem.Challenge.rw_eg5003_01.row.prog) w) (ktrTop dp un gd qual scope L fa cd (cellsFrom (L + 1) scope.names []) []) (execs st (envOfC qual scope L fa cd)) Q (fun _ _ => False) s := by
  revert X
  k_fill
  intro X
  refine lit (by k_is) ho ?_
  intro e
  cases e
  clear ho
  subst hst
  change wpAny _ _ (execs (_ :: _) _) _ _ _
  obtain ⟨hs2, hs3, hnd, h32, hsa⟩ := id hS
  k_steps
  refine Stop.out ?_
  rename Fr _ _ _ _ => F1
  rename News _ _ _ _ => N1
  refine For_invVF F1 (by rfl) (by rfl) ?_
  k_steps
  refine Stop.out ?_
  rename Fr _ _ _ _ => F1
  rename News _ _ _ _ => N1
  refine' (draw_ct w l vs ns 5 _ hI hn).use B F1 X N1 T rfl (hL.at fun o e => F1.keep l o e) ?hd ?hu ?_
  case hd => omega
  case hu => omega
  rintro v nw h' tk' ⟨rfl, ta5, rfl⟩ kz frz F2 N2
  clear kz frz F1 N1
  try simp only [List.nil_append, List.append_nil] at N2
  k_steps
  refine Stop.out ?_
  obtain ⟨cnt, hcnt, hc1, hc2⟩ : ∃ n : Nat, 1 + (draw ns 5).fmod 12 = (n : Int) ∧ 1 ≤ n ∧ n ≤ 12 := by
    have := emod_in (a := draw ns 5) (show (0 : Int) < 12 by decide)
    rw [fmod_pos _ (by decide)]
    exact ⟨(1 + draw ns 5 % 12).toNat, by omega, by omega, by omega⟩
  rename Fr _ _ _ _ => F1
  rename News _ _ _ _ => N1
  rename IsRange _ _ _ _ _ _ _ _ => R1
  rw [hcnt] at R1
  refine iter_rangeN (n := cnt) (fun i m nw => ∃ us ms n, nw = [(R0, listOf us.toArray n), (L + 1 + 1, oB), (L + 1, oA)] ∧ IntsAre us ms ∧ ms.length = i ∧ (∀ d ∈ ms, 0 ≤ d ∧ d < (ss.length : Int)) ∧ m "base" = some (.int (ss.length : Int) tb) ∧ m "blank" = some (.int (j : Int) tj) ∧ m "ranks" = some (.ref R0)) (by rfl) R1 (rsmall _ (by omega)) (rs_one _) F1 N1 ⟨[], [], 0, rfl, .nil, rfl, by simp, rfl, rfl, rfl⟩ ?_ ?_
  · rintro i t m₁ nx h tk₁ own hin hoff hadr ⟨us, ms, nn, rfl, hus, hml, hmd, e1, e2, e3⟩ F₁ N₁
    have F₂ := fr_turn [("base", .int (ss.length : Int) tb), ("blank", .int (j : Int) tj), ("ranks", .ref R0)] (by simp [e1, e2, e3]) F₁
    clear F1 N1 F₁
    have husz : us.toArray.size ≤ 12 := by
      rw [List.size_toArray, hus.length]
      omega
    k_steps
    refine Stop.out ?_
    rename Fr _ _ _ _ => F1
    rename News _ _ _ _ => N1
    refine' (draw_ct w l vs ns (6 + (0 + (i : Int))) _ hI hn).use B F1 X N1 T rfl (hL.at fun o e => F1.keep l o e) ?hd ?hu ?_
    case hd => omega
    case hu => omega
    rintro v nw h' tk' ⟨rfl, tax, rfl⟩ kz frz F2 N2
    clear kz frz F1 N1
    try simp only [List.nil_append, List.append_nil] at N2
    have hb : 0 ≤ ((draw ns (6 + (0 + (i : Int)))).fdiv 3).fmod (ss.length : Int) ∧ ((draw ns (6 + (0 + (i : Int)))).fdiv 3).fmod (ss.length : Int) < (ss.length : Int) := by
      rw [fmod_pos _ (by omega)]
      exact emod_in (by omega)
    k_steps
    all_goals (
      refine Stop.out ?_
      rename Fr _ _ _ _ => F8
      rename News _ _ _ _ => N8
      refine append_K F8 N8 (.head ?_) ?_ (by rw [sizeLine_eq]; omega)
      · intro p hp
        rcases List.mem_append.mp hp with hp | hp
        · rcases List.mem_cons.mp hp with rfl | hp
          · exact Nat.ne_of_lt l1.1
          · rw [List.mem_singleton.mp hp]
            exact Nat.ne_of_lt l1.2
        · exact hoff p hp R0 (by simp)
      intro h8 F8 N8
      k_steps
      rename Fr _ _ _ _ => F9
      rename News _ _ _ _ => N9
      rw [List.push_toArray] at N9
      refine InvEndN.intro (nx := (R0, _) :: [(L + 1 + 1, oB), (L + 1, oA)]) F9 N9 ⟨us ++ [_], ms ++ [_], nn + 1, rfl, hus.append (.cons _ _ .nil), by rw [List.length_append, List.length_singleton]; omega, ?_, rfl, rfl, rfl⟩ rfl sub_a sub_b
      intro d hd
      rcases List.mem_append.mp hd with hd | hd
      · exact hmd d hd
      · rw [List.mem_singleton.mp hd]
        first | exact hb | omega)
  rintro m₁ nx h tk₁ ⟨us, rs, n0, rfl, hus, hrl, hrs, e1, e2, e3⟩ F₁ N₁
  have F₂ := fr_pin [("base", .int (ss.length : Int) tb), ("blank", .int (j : Int) tj), ("ranks", .ref R0)] (by simp [e1, e2, e3]) F₁
  clear F1 N1 F₁ R1
  have husz : us.toArray.size ≤ 12 := by
    rw [List.size_toArray, hus.length]
    omega
  k_steps
  refine Stop.out ?_
  refine LCg.ListComp_U F₂ (by with_unfolding_all rfl) (by decide) (by rfl) (by decide) (by rfl) ?_
  refine nameX_L F₂ (v := .ref R0) (by rfl) ?_
  refine LCg.CompSrc.ledger (by rfl) F₂ N₁ (.head _) (by rw [sizeLine_eq]; omega) (fun g' => ?_)
  refine kcf_list (fun k => ss.getD k.toNat 0) hus ?_ ?_
  · intro k t I oI C oC D' m₂ ys h tk E' hk hC hx F N off ne mk
    have hkr := hrs k hk
    k_steps
  unfold KPfDone
  intro ys hys D h tk F N off
  have hyd : ∀ d ∈ txt ss rs, 0 ≤ d ∧ d < 256 := fun d hd => by
    have := hsa d (txt_mem hnd (by omega) hrs d hd)
    omega
  have hys2 : IntsAre ys (txt ss rs) := hys
  have hyl : (txt ss rs).length ≤ 12 := by
    rw [txt_length]
    omega
  clear hys
  k_steps
  rename KBa.In _ => hin
  refine Stop.out ?_
  rename Fr _ _ _ _ => F1
  rename News _ _ _ _ => N1
  refine' (number_l_ct w R0 us rs (ss.length : Int) _ hus (fun k hk => by have := hrs k hk; omega) (by omega) (by omega)).use B F1 X N1 T rfl (News.isList N1 (.tail _ (.head _))) ?hd ?hu ?_
  case hd => omega
  case hu => omega
  rintro v nw h' tk' ⟨rfl, tnum, rfl⟩ kz frz F2 N2
  clear kz frz F1 N1
  try simp only [List.nil_append, List.append_nil] at N2
  k_steps
  refine Stop.out ?_
  rename Fr _ _ _ _ => F1
  rename News _ _ _ _ => N1
  obtain ⟨tt, F9⟩ : ∃ tt, Fr g L _ (kstB _ [("base", .int (ss.length : Int) tb), ("blank", .int (j : Int) tj), ("ranks", .ref R0), ("text", .bytes (byteArr (txt ss rs)) tt), ("number", .int (digNum rs (ss.length : Int)) tnum)]) := ⟨_, fr_pin [("base", .int (ss.length : Int) tb), ("blank", .int (j : Int) tj), ("ranks", .ref R0), ("text", .bytes (byteArr (txt ss rs)) _), ("number", .int (digNum rs (ss.length : Int)) tnum)] (by simp only [List.forall_mem_cons]; exact ⟨rfl, rfl, rfl, rfl, rfl, by simp⟩) F1⟩
  exact rest _ _ _ rs us n0 _ _ _ (by omega) (by omega) hrs hus (KBa.ints_make hin) F9 (news_sub N1 fun _ hp => .tail _ hp)
end Mine
-- LB
namespace Mine
local macro_rules | `(tactic| walk_at "none") => `(tactic| fail)
local macro_rules | `(tactic| walk_at "none") => `(tactic| fail)
local macro_rules | `(tactic| walk_at "none") => `(tactic| fail)
local macro_rules | `(tactic| walk_at "none") => `(tactic| fail)
local macro_rules | `(tactic| walk_at "none") => `(tactic| fail)
local macro_rules | `(tactic| walk_at "none") => `(tactic| fail)
local macro_rules | `(tactic| walk_at "none") => `(tactic| fail)
local macro_rules | `(tactic| walk_at "none") => `(tactic| fail)
theorem fresh_walk_LB : True := by
 w_top off
 trivial
local macro_rules | `(tactic| walk1) => `(tactic| ((with_reducible show wpAny _ _ (exec (Stmt.While _ _ _ _) _) _ _ _); refine Stop.into ?_))
local macro_rules | `(tactic| walk1) => `(tactic| ((with_reducible show wpAny _ _ (exec (Stmt.For _ _ _ _ _) _) _ _ _); refine Stop.into ?_))
local macro_rules | `(tactic| walk1) => `(tactic| ((with_reducible show wpAny _ _ (pyIter _) _ _ _); refine Stop.into ?_))
local macro_rules | `(tactic| walk1) => `(tactic| ((with_reducible show wpAny _ _ (call (Value.ref _) _ _) _ _ _); refine Stop.into ?_))
local macro_rules | `(tactic| walk_at "getMethod bytes") => `(tactic| (with_reducible refine R.lstrip_method ?_))
local macro_rules | `(tactic| walk_at "getMethod bytes") => `(tactic| (with_reducible refine R.rstrip_method ?_))
local macro_rules | `(tactic| walk_at "getMethod str") => `(tactic| (with_reducible refine R.encode_method ?_))
local macro_rules | `(tactic| walk_at "call builtin:bytes.lstrip") => `(tactic| ((with_reducible show wpAny _ _ (call (Value.builtin "bytes.lstrip") [Value.bytes _ _, Value.bytes _ _]) _ _ _); (refine R.lstrip_call (by kba_ints2) (by kba_ints2) (by kba_size) ?_); intro _ _ _ hlst))
local macro_rules | `(tactic| walk_at "call builtin:bytes.rstrip") => `(tactic| ((with_reducible show wpAny _ _ (call (Value.builtin "bytes.rstrip") [Value.bytes _ _]) _ _ _); (refine R.rstrip_call (by kba_ints2) (by kba_size) ?_); intro _ _ _ hrst))
local macro_rules | `(tactic| walk_at "callWith ref") => `(tactic| (k_here; kfb_any; k_dflt (refine' R.fb_callWith ?hN ?hM ?ha ?_; (case hN => k_asm); (case hM => k_mem); (case ha => exact rfl); k_whole)))
local macro_rules | `(tactic| walk1) => `(tactic| ((with_reducible show wpAny _ _ (binaryOp Operator.Add (Value.bytes _ _) (Value.bytes _ _)) _ _ _); first | ((refine KBa.add_K (by kba_ints2) (by kba_ints2) (by ((try simp only [List.length_replicate, List.length_append, List.length_map, List.length_take, List.length_drop, List.length_cons, List.length_nil]); omega)) ?_); intro _ _ kbaApp) | (refine Stop.into ?_)))
local macro_rules | `(tactic| walk1) => `(tactic| ((with_reducible show wpAny _ _ (exec (Stmt.Assign _ (PySem.Expr.DictComp _ _ _ _ _) _) _) _ _ _); refine Stop.into ?_))
local macro_rules | `(tactic| walk1) => `(tactic| ((with_reducible show wpAny _ _ (call (Value.type "enumerate") _ _) _ _ _); refine Stop.into ?_))
local macro_rules | `(tactic| walk_at "eval Call") => `(tactic| ((with_reducible show wpAny _ _ (eval (PySem.Expr.Call (PySem.Expr.Name _ _) _ [] _) _) _ _ _); k_dflt (refine Call_ ?_)))
local macro_rules | `(tactic| walk1) => `(tactic| ((with_reducible show wpAny _ _ (execs (Stmt.Assign [PySem.Expr.Name ("more" : PySem.Str) _] _ _ :: _) _) _ _ _); refine Stop.into ?_))
theorem piece_b {w : World} {ooc : Value} {ood : Option Addr} {oosl : Array (Option Value)} {oname qual : PySem.Str} {params : Arguments} {body : List Stmt} {scope : Scope} {dV kV doc pm cdv ct : Value} {an : Option Addr}
    (ho : (Mine.hd.heap_39 w.params).lookup 119 = some ⟨ooc, ood, .func (fnOf oname qual params body scope dV kV doc pm an cdv ct), oosl⟩) {st : List Stmt} (hst : st = body.drop 7)
    {p : Program} {loose : List PySem.Str} {mean : ExcName → Option Value} {mg mb : PySem.Str → Option Value} {dp un : Nat} {gd : Option (List Code)} {fa : Addr} {cd : Value} {A₀ : Around} {g : Heap} {L : Addr} {s : Shared} {Q : Flow → Shared → Prop} {m0 : PySem.Str → Option Value}
    (B : Below A₀ g [] g) (X : (Mine.hd.heap_39 w.params).In g) (T : Top p loose mean mg mb g) (hd : dp + 40 < recursionLimit + 1) (hu : un + 20 * 40 < cLine + 3)
    {l : Addr} {vs : List Value} {ns : List Int} (hL : g.IsList l vs.toArray) (hI : IntsAre vs ns) (hn : ns.length < 64)
    {oA oB : Obj} (dA : oA.data = .cell (some (.ref l))) {sg : Array UInt8} {tsg : Tok} {ss : List Int} (dB : oB.data = .cell (some (.bytes sg tsg))) (hsg : KBw.bInts sg = ss) (hS : GoodS ss)
    {j : Nat} {rs : List Int} {us : List Value} {R0 : Addr} {n0 : Nat} {tx : Array UInt8} {tt tb tj tnum : Nat} (hj : j < ss.length) (hj2 : ss.getD j 0 = 32) (l1 : L + 1 + 1 < R0 ∧ L + 1 < R0) (hr1 : 1 ≤ rs.length) (hr2 : rs.length ≤ 12) (hrs : ∀ r ∈ rs, 0 ≤ r ∧ r < (ss.length : Int)) (hus : IntsAre us rs) (htx : KBw.bInts tx = txt ss rs) (F : Fr g L s.heap (kstB m0 [("base", .int (ss.length : Int) tb), ("blank", .int (j : Int) tj), ("ranks", .ref R0), ("text", .bytes tx tt), ("number", .int (digNum rs (ss.length : Int)) tnum)])) (N : News g L s.heap [(R0, listOf us.toArray n0), (L + 1 + 1, oB), (L + 1, oA)])
    (rest : ∀ (h9 : Heap) (tk9 : Nat) (m9 : PySem.Str → Option Value), Fr g L h9 (kstB m9 [("base", .int (ss.length : Int) tb), ("blank", .int (j : Int) tj), ("ranks", .ref R0), ("text", .bytes tx tt), ("number", .int (digNum rs (ss.length : Int)) tnum)]) → News g L h9 [(R0, listOf us.toArray n0), (L + 1 + 1, oB), (L + 1, oA)] → wpAny (model (PySem.Challenge.rw_eg5003_01.row.prog) w) (ktrTop dp un gd qual scope L fa cd (cellsFrom (L + 1) scope.names []) []) (execs (body.drop 10) (envOfC qual scope L fa cd)) Q (fun _ _ => False) { s with heap := h9, toks := tk9 })
    : wpAny (model (PySem.Challenge.rw_eg5003_01.row.prog) w) (ktrTop dp un gd qual scope L fa cd (cellsFrom (L + 1) scope.names []) []) (execs st (envOfC qual scope L fa cd)) Q (fun _ _ => False) s := by
  revert X
  k_fill
  intro X
  refine lit (by k_is) ho ?_
  intro e
  cases e
  clear ho
  subst hst
  change wpAny _ _ (execs (_ :: _) _) _ _ _
  obtain ⟨hs2, hs3, hnd, h32, hsa⟩ := id hS
  have htm : ∀ x ∈ txt ss rs, x ∈ ss := txt_mem hnd (by omega) hrs
  have htl : (txt ss rs).length = rs.length := txt_length ss rs
  have hrk : rankNum ss (txt ss rs) = digNum rs (ss.length : Int) := txt_rank hnd (by omega) hrs
  k_steps
  refine Stop.out ?_
  rename Fr _ _ _ _ => F1
  rename News _ _ _ _ => N1
  refine' (dec_b_ct w tx sg (txt ss rs) ss _ _ htx hsg (by omega) (by omega) (by omega) h32 htm).use B F1 X N1 T rfl (trivial) ?hd ?hu ?_
  case hd => omega
  case hu => omega
  rintro v nw h' tk' ⟨rfl, td1, rfl⟩ kz frz F2 N2
  clear kz frz F1 N1
  try simp only [List.cons_append, List.nil_append, List.append_nil] at N2
  k_steps
  refine Stop.out ?_
  rename Fr _ _ _ _ => F1
  rename News _ _ _ _ => N1
  refine' (whole_ct w (rankNum ss (txt ss rs)) (digNum rs (ss.length : Int)) _ _ hrk).use B F1 X N1 T rfl (trivial) ?hd ?hu ?_
  case hd => omega
  case hu => omega
  rintro v nw h' tk' ⟨rfl, rfl⟩ kz frz F2 N2
  clear kz frz F1 N1
  try simp only [List.cons_append, List.nil_append, List.append_nil] at N2
  k_steps
  refine Stop.out ?_
  rename Fr _ _ _ _ => F1
  rename News _ _ _ _ => N1
  refine' (plain_ct w tx _ (txt ss rs) htx (by omega)).use B F1 X N1 T rfl (trivial) ?hd ?hu ?_
  case hd => omega
  case hu => omega
  rintro v nw h' tk' ⟨rfl, x, tx2, rfl, hx⟩ kz frz F2 N2
  clear kz frz F1 N1
  try simp only [List.cons_append, List.nil_append, List.append_nil] at N2
  have hxl : x.length = rs.length := by
    show x.cps.size = _
    rw [← Array.length_toList, hx, List.length_map, htl]
  have hxa : ∀ c ∈ x.cps, c < 128 := fun c hc => by
    have hc' : c ∈ x.cps.toList := by simpa using hc
    rw [hx] at hc'
    obtain ⟨y, hy, rfl⟩ := List.mem_map.mp hc'
    have := hsa y (htm y hy)
    omega
  have hxb : KBw.bInts (x.cps.map fun c => c.toUInt8) = txt ss rs := plain_ints hx fun k hk => by
    have := hsa k (htm k hk)
    omega
  k_steps
  refine Stop.out ?_
  rename Fr _ _ _ _ => F1
  rename News _ _ _ _ => N1
  refine' (dec_s_ct w x sg (txt ss rs) ss _ _ hxa (by omega) hxb hsg (by omega) (by omega) (by omega) h32 htm).use B F1 X N1 T rfl (trivial) ?hd ?hu ?_
  case hd => omega
  case hu => omega
  rintro v nw h' tk' ⟨rfl, td2, rfl⟩ kz frz F2 N2
  clear kz frz F1 N1
  try simp only [List.cons_append, List.nil_append, List.append_nil] at N2
  k_steps
  refine Stop.out ?_
  rename Fr _ _ _ _ => F1
  rename News _ _ _ _ => N1
  refine' (whole_ct w (rankNum ss (txt ss rs)) (digNum rs (ss.length : Int)) _ _ hrk).use B F1 X N1 T rfl (trivial) ?hd ?hu ?_
  case hd => omega
  case hu => omega
  rintro v nw h' tk' ⟨rfl, rfl⟩ kz frz F2 N2
  clear kz frz F1 N1
  try simp only [List.cons_append, List.nil_append, List.append_nil] at N2
  k_steps
  refine Stop.out ?_
  rename Fr _ _ _ _ => F1
  rename News _ _ _ _ => N1
  refine' (dec_fix_ct w tx sg (txt ss rs) ss _ _ htx hsg (by omega) (by omega) (by omega) h32 htm).use B F1 X N1 T rfl (trivial) ?hd ?hu ?_
  case hd => omega
  case hu => omega
  rintro v nw h' tk' ⟨rfl, td3, rfl⟩ kz frz F2 N2
  clear kz frz F1 N1
  try simp only [List.cons_append, List.nil_append, List.append_nil] at N2
  k_steps
  refine Stop.out ?_
  rename Fr _ _ _ _ => F1
  rename News _ _ _ _ => N1
  refine' (whole_ct w (rankNum ss (txt ss rs)) (digNum rs (ss.length : Int)) _ _ hrk).use B F1 X N1 T rfl (trivial) ?hd ?hu ?_
  case hd => omega
  case hu => omega
  rintro v nw h' tk' ⟨rfl, rfl⟩ kz frz F2 N2
  clear kz frz F1 N1
  try simp only [List.cons_append, List.nil_append, List.append_nil] at N2
  k_steps
  refine Stop.out ?_
  rename Fr _ _ _ _ => F1
  rename News _ _ _ _ => N1
  have F9 := fr_pin [("base", .int (ss.length : Int) tb), ("blank", .int (j : Int) tj), ("ranks", .ref R0), ("text", .bytes tx tt), ("number", .int (digNum rs (ss.length : Int)) tnum)] (by simp only [List.forall_mem_cons]; exact ⟨rfl, rfl, rfl, rfl, rfl, by simp⟩) F1
  exact rest _ _ _ F9 N1
end Mine
-- LB2
namespace Mine
local macro_rules | `(tactic| walk_at "none") => `(tactic| fail)
local macro_rules | `(tactic| walk_at "none") => `(tactic| fail)
local macro_rules | `(tactic| walk_at "none") => `(tactic| fail)
local macro_rules | `(tactic| walk_at "none") => `(tactic| fail)
local macro_rules | `(tactic| walk_at "none") => `(tactic| fail)
local macro_rules | `(tactic| walk_at "none") => `(tactic| fail)
local macro_rules | `(tactic| walk_at "none") => `(tactic| fail)
theorem fresh_walk_LB2 : True := by
 w_top off
 trivial
local macro_rules | `(tactic| walk1) => `(tactic| ((with_reducible show wpAny _ _ (exec (Stmt.While _ _ _ _) _) _ _ _); refine Stop.into ?_))
local macro_rules | `(tactic| walk1) => `(tactic| ((with_reducible show wpAny _ _ (exec (Stmt.For _ _ _ _ _) _) _ _ _); refine Stop.into ?_))
local macro_rules | `(tactic| walk1) => `(tactic| ((with_reducible show wpAny _ _ (pyIter _) _ _ _); refine Stop.into ?_))
local macro_rules | `(tactic| walk1) => `(tactic| ((with_reducible show wpAny _ _ (call (Value.ref _) _ _) _ _ _); refine Stop.into ?_))
local macro_rules | `(tactic| walk_at "getMethod bytes") => `(tactic| (with_reducible refine R.lstrip_method ?_))
local macro_rules | `(tactic| walk_at "getMethod bytes") => `(tactic| (with_reducible refine R.rstrip_method ?_))
local macro_rules | `(tactic| walk_at "getMethod str") => `(tactic| (with_reducible refine R.encode_method ?_))
local macro_rules | `(tactic| walk_at "call builtin:bytes.lstrip") => `(tactic| ((with_reducible show wpAny _ _ (call (Value.builtin "bytes.lstrip") [Value.bytes _ _, Value.bytes _ _]) _ _ _); (refine R.lstrip_call (by kba_ints2) (by kba_ints2) (by kba_size) ?_); intro _ _ _ hlst))
local macro_rules | `(tactic| walk_at "call builtin:bytes.rstrip") => `(tactic| ((with_reducible show wpAny _ _ (call (Value.builtin "bytes.rstrip") [Value.bytes _ _]) _ _ _); (refine R.rstrip_call (by kba_ints2) (by kba_size) ?_); intro _ _ _ hrst))
local macro_rules | `(tactic| walk_at "callWith ref") => `(tactic| (k_here; kfb_any; k_dflt (refine' R.fb_callWith ?hN ?hM ?ha ?_; (case hN => k_asm); (case hM => k_mem); (case ha => exact rfl); k_whole)))
local macro_rules | `(tactic| walk1) => `(tactic| ((with_reducible show wpAny _ _ (binaryOp Operator.Add (Value.bytes _ _) (Value.bytes _ _)) _ _ _); first | ((refine KBa.add_K (by kba_ints2) (by kba_ints2) (by ((try simp only [List.length_replicate, List.length_append, List.length_map, List.length_take, List.length_drop, List.length_cons, List.length_nil]); omega)) ?_); intro _ _ kbaApp) | (refine Stop.into ?_)))
local macro_rules | `(tactic| walk1) => `(tactic| ((with_reducible show wpAny _ _ (exec (Stmt.Assign _ (PySem.Expr.DictComp _ _ _ _ _) _) _) _ _ _); refine Stop.into ?_))
local macro_rules | `(tactic| walk1) => `(tactic| ((with_reducible show wpAny _ _ (call (Value.type "enumerate") _ _) _ _ _); refine Stop.into ?_))
local macro_rules | `(tactic| walk_at "eval Call") => `(tactic| ((with_reducible show wpAny _ _ (eval (PySem.Expr.Call (PySem.Expr.Name _ _) _ [] _) _) _ _ _); k_dflt (refine Call_ ?_)))
local macro_rules | `(tactic| walk1) => `(tactic| ((with_reducible show wpAny _ _ (execs (Stmt.Assign [PySem.Expr.Name ("bare" : PySem.Str) _] _ _ :: _) _) _ _ _); refine Stop.into ?_))
theorem piece_b2 {w : World} {ooc : Value} {ood : Option Addr} {oosl : Array (Option Value)} {oname qual : PySem.Str} {params : Arguments} {body : List Stmt} {scope : Scope} {dV kV doc pm cdv ct : Value} {an : Option Addr}
    (ho : (Mine.hd.heap_39 w.params).lookup 119 = some ⟨ooc, ood, .func (fnOf oname qual params body scope dV kV doc pm an cdv ct), oosl⟩) {st : List Stmt} (hst : st = body.drop 10)
    {p : Program} {loose : List PySem.Str} {mean : ExcName → Option Value} {mg mb : PySem.Str → Option Value} {dp un : Nat} {gd : Option (List Code)} {fa : Addr} {cd : Value} {A₀ : Around} {g : Heap} {L : Addr} {s : Shared} {Q : Flow → Shared → Prop} {m0 : PySem.Str → Option Value}
    (B : Below A₀ g [] g) (X : (Mine.hd.heap_39 w.params).In g) (T : Top p loose mean mg mb g) (hd : dp + 40 < recursionLimit + 1) (hu : un + 20 * 40 < cLine + 3)
    {l : Addr} {vs : List Value} {ns : List Int} (hL : g.IsList l vs.toArray) (hI : IntsAre vs ns) (hn : ns.length < 64)
    {oA oB : Obj} (dA : oA.data = .cell (some (.ref l))) {sg : Array UInt8} {tsg : Tok} {ss : List Int} (dB : oB.data = .cell (some (.bytes sg tsg))) (hsg : KBw.bInts sg = ss) (hS : GoodS ss)
    {j : Nat} {rs : List Int} {us : List Value} {R0 : Addr} {n0 : Nat} {tx : Array UInt8} {tt tb tj tnum : Nat} (hj : j < ss.length) (hj2 : ss.getD j 0 = 32) (l1 : L + 1 + 1 < R0 ∧ L + 1 < R0) (hr1 : 1 ≤ rs.length) (hr2 : rs.length ≤ 12) (hrs : ∀ r ∈ rs, 0 ≤ r ∧ r < (ss.length : Int)) (hus : IntsAre us rs) (htx : KBw.bInts tx = txt ss rs) (F : Fr g L s.heap (kstB m0 [("base", .int (ss.length : Int) tb), ("blank", .int (j : Int) tj), ("ranks", .ref R0), ("text", .bytes tx tt), ("number", .int (digNum rs (ss.length : Int)) tnum)])) (N : News g L s.heap [(R0, listOf us.toArray n0), (L + 1 + 1, oB), (L + 1, oA)])
    (rest : ∀ (h9 : Heap) (tk9 : Nat) (m9 : PySem.Str → Option Value), Fr g L h9 (kstB m9 [("base", .int (ss.length : Int) tb), ("blank", .int (j : Int) tj), ("ranks", .ref R0), ("text", .bytes tx tt), ("number", .int (digNum rs (ss.length : Int)) tnum)]) → News g L h9 [(R0, listOf us.toArray n0), (L + 1 + 1, oB), (L + 1, oA)] → wpAny (model (PySem.Challenge.rw_eg5003_01.row.prog) w) (ktrTop dp un gd qual scope L fa cd (cellsFrom (L + 1) scope.names []) []) (execs (body.drop 14) (envOfC qual scope L fa cd)) Q (fun _ _ => False) { s with heap := h9, toks := tk9 })
    : wpAny (model (PySem.Challenge.rw_eg5003_01.row.prog) w) (ktrTop dp un gd qual scope L fa cd (cellsFrom (L + 1) scope.names []) []) (execs st (envOfC qual scope L fa cd)) Q (fun _ _ => False) s := by
  revert X
  k_fill
  intro X
  refine lit (by k_is) ho ?_
  intro e
  cases e
  clear ho
  subst hst
  change wpAny _ _ (execs (_ :: _) _) _ _ _
  obtain ⟨hs2, hs3, hnd, h32, hsa⟩ := id hS
  have htm : ∀ x ∈ txt ss rs, x ∈ ss := txt_mem hnd (by omega) hrs
  have htl : (txt ss rs).length = rs.length := txt_length ss rs
  have hrk : rankNum ss (txt ss rs) = digNum rs (ss.length : Int) := txt_rank hnd (by omega) hrs
  k_steps
  refine Stop.out ?_
  rename Fr _ _ _ _ => F1
  rename News _ _ _ _ => N1
  refine' (draw_ct w l vs ns 18 _ hI hn).use B F1 X N1 T rfl (hL.at fun o e => F1.keep l o e) ?hd ?hu ?_
  case hd => omega
  case hu => omega
  rintro v nw h' tk' ⟨rfl, ta18, rfl⟩ kz frz F2 N2
  clear kz frz F1 N1
  try simp only [List.cons_append, List.nil_append, List.append_nil] at N2
  k_steps
  have hmo : 0 ≤ (draw ns 18).fmod 3 ∧ (draw ns 18).fmod 3 < 3 := by
    rw [fmod_pos _ (by decide)]
    exact emod_in (by decide)
  generalize (draw ns 18).fmod 3 = f3 at *
  obtain ⟨mo, hmo2, hmo3, hmo4⟩ : ∃ mo : Nat, 1 + f3 = (mo : Int) ∧ 1 ≤ mo ∧ mo ≤ 3 := ⟨(1 + f3).toNat, by omega, by omega, by omega⟩
  rename IntsAre _ (rs ++ _) => hI5
  rw [hmo2, Int.toNat_natCast, flat_rep1] at hI5
  have hR : ∀ r ∈ rs ++ List.replicate mo (j : Int), 0 ≤ r ∧ r < (ss.length : Int) := fun r hr => by
    rcases List.mem_append.mp hr with hr | hr
    · exact hrs r hr
    · rw [List.eq_of_mem_replicate hr]
      omega
  have hRl : (rs ++ List.replicate mo (j : Int)).length ≤ 15 := by
    rw [List.length_append, List.length_replicate]
    omega
  have hR2 : txt ss (rs ++ List.replicate mo (j : Int)) = txt ss rs ++ List.replicate mo 32 := by
    unfold txt
    rw [List.map_append, List.map_replicate, Int.toNat_natCast, hj2]
  have hRm : ∀ x ∈ txt ss rs ++ List.replicate mo 32, x ∈ ss := hR2 ▸ txt_mem hnd (by omega) hR
  have hRk : rankNum ss (txt ss rs ++ List.replicate mo 32) = digNum (rs ++ List.replicate mo (j : Int)) (ss.length : Int) := hR2 ▸ txt_rank hnd (by omega) hR
  have hRz : (txt ss rs ++ List.replicate mo 32).length ≤ 15 := by
    rw [List.length_append, List.length_replicate]
    omega
  generalize rs ++ List.replicate mo (j : Int) = rs2 at *
  refine Stop.out ?_
  rename Fr _ _ _ _ => F1
  rename News _ _ _ _ => N1
  refine' (number_l_ct w _ _ rs2 (ss.length : Int) _ hI5 (fun k hk => by have := hR k hk; omega) (by omega) (by omega)).use B F1 X N1 T rfl (News.isList N1 (.head _)) ?hd ?hu ?_
  case hd => omega
  case hu => omega
  rintro v nw h' tk' ⟨rfl, tlong, rfl⟩ kz frz F2 N2
  clear kz frz F1 N1
  try simp only [List.cons_append, List.nil_append, List.append_nil] at N2
  k_steps
  refine Stop.out ?_
  have h32b : KBw.bInts (List.replicate (1 + f3).toNat [(32 : UInt8)]).flatten.toArray = List.replicate mo 32 := by
    rw [hmo2, Int.toNat_natCast]
    exact rep32 mo
  refine KBa.add_K htx h32b (by rw [List.length_replicate]; omega) ?_
  intro t5 k5 hap
  k_steps
  refine Stop.out ?_
  rename Fr _ _ _ _ => F1
  rename News _ _ _ _ => N1
  refine' (dec_b_ct w _ sg (txt ss rs ++ List.replicate mo 32) ss _ _ hap hsg (by omega) (by omega) (by omega) h32 hRm).use B F1 X N1 T rfl (trivial) ?hd ?hu ?_
  case hd => omega
  case hu => omega
  rintro v nw h' tk' ⟨rfl, td4, rfl⟩ kz frz F2 N2
  clear kz frz F1 N1
  try simp only [List.cons_append, List.nil_append, List.append_nil] at N2
  k_steps
  refine Stop.out ?_
  rename Fr _ _ _ _ => F1
  rename News _ _ _ _ => N1
  refine' (whole_ct w (rankNum ss (txt ss rs ++ List.replicate mo 32)) (digNum rs2 (ss.length : Int)) _ _ hRk).use B F1 X N1 T rfl (trivial) ?hd ?hu ?_
  case hd => omega
  case hu => omega
  rintro v nw h' tk' ⟨rfl, rfl⟩ kz frz F2 N2
  clear kz frz F1 N1
  try simp only [List.cons_append, List.nil_append, List.append_nil] at N2
  k_steps
  refine Stop.out ?_
  rename Fr _ _ _ _ => F1
  rename News _ _ _ _ => N1
  refine' (plain_ct w tx _ (txt ss rs) htx (by omega)).use B F1 X N1 T rfl (trivial) ?hd ?hu ?_
  case hd => omega
  case hu => omega
  rintro v nw h' tk' ⟨rfl, x, tx2, rfl, hx⟩ kz frz F2 N2
  clear kz frz F1 N1
  try simp only [List.cons_append, List.nil_append, List.append_nil] at N2
  have hxl : x.length = rs.length := by
    show x.cps.size = _
    rw [← Array.length_toList, hx, List.length_map, htl]
  have hxa : ∀ c ∈ x.cps, c < 128 := fun c hc => by
    have hc' : c ∈ x.cps.toList := by simpa using hc
    rw [hx] at hc'
    obtain ⟨y, hy, rfl⟩ := List.mem_map.mp hc'
    have := hsa y (htm y hy)
    omega
  have hxb : KBw.bInts (x.cps.map fun c => c.toUInt8) = txt ss rs := plain_ints hx fun k hk => by
    have := hsa k (htm k hk)
    omega
  k_steps
  have hx2 : (x ++ PySem.Txt.mul (PySem.Str.ofString " ") (1 + f3)).cps.toList = (txt ss rs ++ List.replicate mo 32).map Int.toNat := by
    rw [KT.app_list, hx, hmo2, mul_sp mo hmo3 hmo4, List.map_append, List.map_replicate]
    rfl
  clear hxl hxa hxb hx
  generalize x ++ PySem.Txt.mul (PySem.Str.ofString " ") (1 + f3) = y at *
  have hyl : y.length ≤ 15 := by
    show y.cps.size ≤ 15
    rw [← Array.length_toList, hx2, List.length_map]
    exact hRz
  have hya : ∀ c ∈ y.cps, c < 128 := fun c hc => by
    have hc' : c ∈ y.cps.toList := by simpa using hc
    rw [hx2] at hc'
    obtain ⟨z, hz, rfl⟩ := List.mem_map.mp hc'
    have := hsa z (hRm z hz)
    omega
  have hyb : KBw.bInts (y.cps.map fun c => c.toUInt8) = txt ss rs ++ List.replicate mo 32 := plain_ints hx2 fun k hk => by
    have := hsa k (hRm k hk)
    omega
  refine Stop.out ?_
  rename Fr _ _ _ _ => F1
  rename News _ _ _ _ => N1
  refine' (dec_s_ct w y sg (txt ss rs ++ List.replicate mo 32) ss _ _ hya (by omega) hyb hsg (by omega) (by omega) (by omega) h32 hRm).use B F1 X N1 T rfl (trivial) ?hd ?hu ?_
  case hd => omega
  case hu => omega
  rintro v nw h' tk' ⟨rfl, td5, rfl⟩ kz frz F2 N2
  clear kz frz F1 N1
  try simp only [List.cons_append, List.nil_append, List.append_nil] at N2
  k_steps
  refine Stop.out ?_
  rename Fr _ _ _ _ => F1
  rename News _ _ _ _ => N1
  refine' (whole_ct w (rankNum ss (txt ss rs ++ List.replicate mo 32)) (digNum rs2 (ss.length : Int)) _ _ hRk).use B F1 X N1 T rfl (trivial) ?hd ?hu ?_
  case hd => omega
  case hu => omega
  rintro v nw h' tk' ⟨rfl, rfl⟩ kz frz F2 N2
  clear kz frz F1 N1
  try simp only [List.cons_append, List.nil_append, List.append_nil] at N2
  k_steps
  refine Stop.out ?_
  rename Fr _ _ _ _ => F1
  rename News _ _ _ _ => N1
  have F9 := fr_pin [("base", .int (ss.length : Int) tb), ("blank", .int (j : Int) tj), ("ranks", .ref R0), ("text", .bytes tx tt), ("number", .int (digNum rs (ss.length : Int)) tnum)] (by simp only [List.forall_mem_cons]; exact ⟨rfl, rfl, rfl, rfl, rfl, by simp⟩) F1
  exact rest _ _ _ F9 (news_sub N1 fun _ hp => .tail _ (.tail _ (.tail _ hp)))
end Mine
-- LC1
namespace Mine
local macro_rules | `(tactic| walk_at "none") => `(tactic| fail)
local macro_rules | `(tactic| walk_at "none") => `(tactic| fail)
local macro_rules | `(tactic| walk_at "none") => `(tactic| fail)
local macro_rules | `(tactic| walk_at "none") => `(tactic| fail)
local macro_rules | `(tactic| walk_at "none") => `(tactic| fail)
local macro_rules | `(tactic| walk_at "none") => `(tactic| fail)
local macro_rules | `(tactic| walk_at "none") => `(tactic| fail)
local macro_rules | `(tactic| walk_at "none") => `(tactic| fail)
theorem fresh_walk_LC1 : True := by
 w_top off
 trivial
local macro_rules | `(tactic| walk1) => `(tactic| ((with_reducible show wpAny _ _ (exec (Stmt.While _ _ _ _) _) _ _ _); refine Stop.into ?_))
local macro_rules | `(tactic| walk1) => `(tactic| ((with_reducible show wpAny _ _ (exec (Stmt.For _ _ _ _ _) _) _ _ _); refine Stop.into ?_))
local macro_rules | `(tactic| walk1) => `(tactic| ((with_reducible show wpAny _ _ (pyIter _) _ _ _); refine Stop.into ?_))
local macro_rules | `(tactic| walk1) => `(tactic| ((with_reducible show wpAny _ _ (call (Value.ref _) _ _) _ _ _); refine Stop.into ?_))
local macro_rules | `(tactic| walk_at "getMethod bytes") => `(tactic| (with_reducible refine R.lstrip_method ?_))
local macro_rules | `(tactic| walk_at "getMethod bytes") => `(tactic| (with_reducible refine R.rstrip_method ?_))
local macro_rules | `(tactic| walk_at "getMethod str") => `(tactic| (with_reducible refine R.encode_method ?_))
local macro_rules | `(tactic| walk_at "call builtin:bytes.lstrip") => `(tactic| ((with_reducible show wpAny _ _ (call (Value.builtin "bytes.lstrip") [Value.bytes _ _, Value.bytes _ _]) _ _ _); (refine R.lstrip_call (by kba_ints2) (by kba_ints2) (by kba_size) ?_); intro _ _ _ hlst))
local macro_rules | `(tactic| walk_at "call builtin:bytes.rstrip") => `(tactic| ((with_reducible show wpAny _ _ (call (Value.builtin "bytes.rstrip") [Value.bytes _ _]) _ _ _); (refine R.rstrip_call (by kba_ints2) (by kba_size) ?_); intro _ _ _ hrst))
local macro_rules | `(tactic| walk_at "callWith ref") => `(tactic| (k_here; kfb_any; k_dflt (refine' R.fb_callWith ?hN ?hM ?ha ?_; (case hN => k_asm); (case hM => k_mem); (case ha => exact rfl); k_whole)))
local macro_rules | `(tactic| walk1) => `(tactic| ((with_reducible show wpAny _ _ (binaryOp Operator.Add (Value.bytes _ _) (Value.bytes _ _)) _ _ _); first | ((refine KBa.add_K (by kba_ints2) (by kba_ints2) (by ((try simp only [List.length_replicate, List.length_append, List.length_map, List.length_take, List.length_drop, List.length_cons, List.length_nil]); omega)) ?_); intro _ _ kbaApp) | (refine Stop.into ?_)))
local macro_rules | `(tactic| walk1) => `(tactic| ((with_reducible show wpAny _ _ (exec (Stmt.Assign _ (PySem.Expr.DictComp _ _ _ _ _) _) _) _ _ _); refine Stop.into ?_))
local macro_rules | `(tactic| walk1) => `(tactic| ((with_reducible show wpAny _ _ (call (Value.type "enumerate") _ _) _ _ _); refine Stop.into ?_))
local macro_rules | `(tactic| walk_at "eval Call") => `(tactic| ((with_reducible show wpAny _ _ (eval (PySem.Expr.Call (PySem.Expr.Name _ _) _ [] _) _) _ _ _); k_dflt (refine Call_ ?_)))
local macro_rules | `(tactic| walk1) => `(tactic| ((with_reducible show wpAny _ _ (execs (Stmt.Assign [PySem.Expr.Name ("at" : PySem.Str) _] _ _ :: _) _) _ _ _); refine Stop.into ?_))
theorem piece_c {w : World} {ooc : Value} {ood : Option Addr} {oosl : Array (Option Value)} {oname qual : PySem.Str} {params : Arguments} {body : List Stmt} {scope : Scope} {dV kV doc pm cdv ct : Value} {an : Option Addr}
    (ho : (Mine.hd.heap_39 w.params).lookup 119 = some ⟨ooc, ood, .func (fnOf oname qual params body scope dV kV doc pm an cdv ct), oosl⟩) {st : List Stmt} (hst : st = body.drop 14)
    {p : Program} {loose : List PySem.Str} {mean : ExcName → Option Value} {mg mb : PySem.Str → Option Value} {dp un : Nat} {gd : Option (List Code)} {fa : Addr} {cd : Value} {A₀ : Around} {g : Heap} {L : Addr} {s : Shared} {Q : Flow → Shared → Prop} {m0 : PySem.Str → Option Value}
    (B : Below A₀ g [] g) (X : (Mine.hd.heap_39 w.params).In g) (T : Top p loose mean mg mb g) (hd : dp + 40 < recursionLimit + 1) (hu : un + 20 * 40 < cLine + 3)
    {l : Addr} {vs : List Value} {ns : List Int} (hL : g.IsList l vs.toArray) (hI : IntsAre vs ns) (hn : ns.length < 64)
    {oA oB : Obj} (dA : oA.data = .cell (some (.ref l))) {sg : Array UInt8} {tsg : Tok} {ss : List Int} (dB : oB.data = .cell (some (.bytes sg tsg))) (hsg : KBw.bInts sg = ss) (hS : GoodS ss)
    {j : Nat} {rs : List Int} {us : List Value} {R0 : Addr} {n0 : Nat} {tx : Array UInt8} {tt tb tj tnum : Nat} (hj : j < ss.length) (hj2 : ss.getD j 0 = 32) (l1 : L + 1 + 1 < R0 ∧ L + 1 < R0) (hr1 : 1 ≤ rs.length) (hr2 : rs.length ≤ 12) (hrs : ∀ r ∈ rs, 0 ≤ r ∧ r < (ss.length : Int)) (hus : IntsAre us rs) (htx : KBw.bInts tx = txt ss rs) (F : Fr g L s.heap (kstB m0 [("base", .int (ss.length : Int) tb), ("blank", .int (j : Int) tj), ("ranks", .ref R0), ("text", .bytes tx tt), ("number", .int (digNum rs (ss.length : Int)) tnum)])) (N : News g L s.heap [(R0, listOf us.toArray n0), (L + 1 + 1, oB), (L + 1, oA)])
    (rest : ∀ (h9 : Heap) (tk9 : Nat) (m9 : PySem.Str → Option Value), Fr g L h9 (kstB m9 [("base", .int (ss.length : Int) tb), ("blank", .int (j : Int) tj), ("ranks", .ref R0), ("text", .bytes tx tt), ("number", .int (digNum rs (ss.length : Int)) tnum)]) → News g L h9 [(R0, listOf us.toArray n0), (L + 1 + 1, oB), (L + 1, oA)] → wpAny (model (PySem.Challenge.rw_eg5003_01.row.prog) w) (ktrTop dp un gd qual scope L fa cd (cellsFrom (L + 1) scope.names []) []) (execs (body.drop 17) (envOfC qual scope L fa cd)) Q (fun _ _ => False) { s with heap := h9, toks := tk9 })
    : wpAny (model (PySem.Challenge.rw_eg5003_01.row.prog) w) (ktrTop dp un gd qual scope L fa cd (cellsFrom (L + 1) scope.names []) []) (execs st (envOfC qual scope L fa cd)) Q (fun _ _ => False) s := by
  revert X
  k_fill
  intro X
  refine lit (by k_is) ho ?_
  intro e
  cases e
  clear ho
  subst hst
  change wpAny _ _ (execs (_ :: _) _) _ _ _
  obtain ⟨hs2, hs3, hnd, h32, hsa⟩ := id hS
  have htm : ∀ x ∈ txt ss rs, x ∈ ss := txt_mem hnd (by omega) hrs
  have htl : (txt ss rs).length = rs.length := txt_length ss rs
  have hrk : rankNum ss (txt ss rs) = digNum rs (ss.length : Int) := txt_rank hnd (by omega) hrs
  k_steps
  refine Stop.out ?_
  rename Fr _ _ _ _ => F1
  rename News _ _ _ _ => N1
  refine' (noughts_l_ct w R0 us rs hus (by omega)).use B F1 X N1 T rfl (News.isList N1 (.head _)) ?hd ?hu ?_
  case hd => omega
  case hu => omega
  rintro v nw h' tk' ⟨rfl, tno, rfl⟩ kz frz F2 N2
  clear kz frz F1 N1
  try simp only [List.cons_append, List.nil_append, List.append_nil] at N2
  have hno : nough rs ≤ rs.length := nough_le rs
  have hnum0 : 0 ≤ digNum rs (ss.length : Int) := digNum_nonneg (by omega) fun k hk => (hrs k hk).1
  have henc : encI ss (digNum rs (ss.length : Int)) = txt ss (rs.drop (nough rs)) := enc_txt hnd (by omega) hrs
  have hdl : (txt ss (rs.drop (nough rs))).length ≤ 12 := by
    rw [txt_length, List.length_drop]
    omega
  k_steps
  rename KBw.bInts (KBy.picked _ _ _) = _ => hpk
  have hba : KBw.bInts (KBy.picked tx (some (nough rs : Int)) none) = txt ss (rs.drop (nough rs)) := by
    rw [hpk, htl, Nat.min_eq_left hno, txt_drop, List.take_of_length_le (by rw [txt_length, List.length_drop]; exact Nat.le_refl _)]
  clear hpk
  generalize KBy.picked tx (some (nough rs : Int)) none = bare at *
  refine Stop.out ?_
  rename Fr _ _ _ _ => F1
  rename News _ _ _ _ => N1
  refine' (enc_int_ct w (digNum rs (ss.length : Int)) false sg ss _ _ hnum0 hsg (by omega) (by omega) (by rw [henc]; omega)).use B F1 X N1 T rfl (trivial) ?hd ?hu ?_
  case hd => omega
  case hu => omega
  rintro v nw h' tk' ⟨rfl, en, ten, rfl, hen⟩ kz frz F2 N2
  clear kz frz F1 N1
  try simp only [List.cons_append, List.nil_append, List.append_nil] at N2
  k_steps
  · rename (en.toList != _) = true => hne
    rw [bytes_eq (hen.trans (by rw [if_neg (by simp), henc, hba]))] at hne
    simp at hne
  rename (en.toList != _) = false => hne
  clear hne hen
  refine Stop.out ?_
  rename Fr _ _ _ _ => F1
  rename News _ _ _ _ => N1
  refine' (enc_int_ct w (digNum rs (ss.length : Int)) true sg ss _ _ hnum0 hsg (by omega) (by omega) (by rw [henc]; omega)).use B F1 X N1 T rfl (trivial) ?hd ?hu ?_
  case hd => omega
  case hu => omega
  rintro v nw h' tk' ⟨rfl, en2, ten2, rfl, hen2⟩ kz frz F2 N2
  clear kz frz F1 N1
  try simp only [List.cons_append, List.nil_append, List.append_nil] at N2
  k_steps
  · rename (en2.toList != _) = true => hne
    rename 0 < List.length _ => hpos
    have h0 : ¬ digNum rs (ss.length : Int) = 0 := fun q => by
      rw [q, encI_zero] at henc
      rw [← henc] at hpos
      cases hpos
    rw [bytes_eq (hen2.trans (by rw [if_neg (fun q => h0 q.1), henc, hba]))] at hne
    simp at hne
  · refine Stop.out ?_
    rename Fr _ _ _ _ => F1
    rename News _ _ _ _ => N1
    have F9 := fr_pin [("base", .int (ss.length : Int) tb), ("blank", .int (j : Int) tj), ("ranks", .ref R0), ("text", .bytes tx tt), ("number", .int (digNum rs (ss.length : Int)) tnum)] (by simp only [List.forall_mem_cons]; exact ⟨rfl, rfl, rfl, rfl, rfl, by simp⟩) F1
    exact rest _ _ _ F9 N1
  · rename (en2.toList != _) = true => hne
    rename ¬ 0 < List.length _ => hpos
    rename KBw.bInts (KBy.picked _ _ _) = _ => hpk
    have h0 : digNum rs (ss.length : Int) = 0 := by
      have e : rs.drop (nough rs) = [] := by
        rw [txt_length] at hpos
        exact List.length_eq_zero_iff.mp (by omega)
      rw [← digNum_drop, e]
      rfl
    have hpk2 : KBw.bInts (KBy.picked sg none (some 1)) = ss.take 1 := by
      rw [hpk, clip_in (by decide) (by omega)]
      rfl
    rw [bytes_eq (hen2.trans (by rw [if_pos ⟨h0, rfl⟩, hpk2]))] at hne
    simp at hne
  · refine Stop.out ?_
    rename Fr _ _ _ _ => F1
    rename News _ _ _ _ => N1
    have F9 := fr_pin [("base", .int (ss.length : Int) tb), ("blank", .int (j : Int) tj), ("ranks", .ref R0), ("text", .bytes tx tt), ("number", .int (digNum rs (ss.length : Int)) tnum)] (by simp only [List.forall_mem_cons]; exact ⟨rfl, rfl, rfl, rfl, rfl, by simp⟩) F1
    exact rest _ _ _ F9 N1
end Mine
-- LC2
namespace Mine
local macro_rules | `(tactic| walk_at "none") => `(tactic| fail)
local macro_rules | `(tactic| walk_at "none") => `(tactic| fail)
local macro_rules | `(tactic| walk_at "none") => `(tactic| fail)
local macro_rules | `(tactic| walk_at "none") => `(tactic| fail)
local macro_rules | `(tactic| walk_at "none") => `(tactic| fail)
local macro_rules | `(tactic| walk_at "none") => `(tactic| fail)
local macro_rules | `(tactic| walk_at "none") => `(tactic| fail)
theorem fresh_walk_LC2 : True := by
 w_top off
 trivial
local macro_rules | `(tactic| walk1) => `(tactic| ((with_reducible show wpAny _ _ (exec (Stmt.While _ _ _ _) _) _ _ _); refine Stop.into ?_))
local macro_rules | `(tactic| walk1) => `(tactic| ((with_reducible show wpAny _ _ (exec (Stmt.For _ _ _ _ _) _) _ _ _); refine Stop.into ?_))
local macro_rules | `(tactic| walk1) => `(tactic| ((with_reducible show wpAny _ _ (pyIter _) _ _ _); refine Stop.into ?_))
local macro_rules | `(tactic| walk1) => `(tactic| ((with_reducible show wpAny _ _ (call (Value.ref _) _ _) _ _ _); refine Stop.into ?_))
local macro_rules | `(tactic| walk_at "getMethod bytes") => `(tactic| (with_reducible refine R.lstrip_method ?_))
local macro_rules | `(tactic| walk_at "getMethod bytes") => `(tactic| (with_reducible refine R.rstrip_method ?_))
local macro_rules | `(tactic| walk_at "getMethod str") => `(tactic| (with_reducible refine R.encode_method ?_))
local macro_rules | `(tactic| walk_at "call builtin:bytes.lstrip") => `(tactic| ((with_reducible show wpAny _ _ (call (Value.builtin "bytes.lstrip") [Value.bytes _ _, Value.bytes _ _]) _ _ _); (refine R.lstrip_call (by kba_ints2) (by kba_ints2) (by kba_size) ?_); intro _ _ _ hlst))
local macro_rules | `(tactic| walk_at "call builtin:bytes.rstrip") => `(tactic| ((with_reducible show wpAny _ _ (call (Value.builtin "bytes.rstrip") [Value.bytes _ _]) _ _ _); (refine R.rstrip_call (by kba_ints2) (by kba_size) ?_); intro _ _ _ hrst))
local macro_rules | `(tactic| walk_at "callWith ref") => `(tactic| (k_here; kfb_any; k_dflt (refine' R.fb_callWith ?hN ?hM ?ha ?_; (case hN => k_asm); (case hM => k_mem); (case ha => exact rfl); k_whole)))
local macro_rules | `(tactic| walk1) => `(tactic| ((with_reducible show wpAny _ _ (binaryOp Operator.Add (Value.bytes _ _) (Value.bytes _ _)) _ _ _); first | ((refine KBa.add_K (by kba_ints2) (by kba_ints2) (by ((try simp only [List.length_replicate, List.length_append, List.length_map, List.length_take, List.length_drop, List.length_cons, List.length_nil]); omega)) ?_); intro _ _ kbaApp) | (refine Stop.into ?_)))
local macro_rules | `(tactic| walk1) => `(tactic| ((with_reducible show wpAny _ _ (exec (Stmt.Assign _ (PySem.Expr.DictComp _ _ _ _ _) _) _) _ _ _); refine Stop.into ?_))
local macro_rules | `(tactic| walk1) => `(tactic| ((with_reducible show wpAny _ _ (call (Value.type "enumerate") _ _) _ _ _); refine Stop.into ?_))
local macro_rules | `(tactic| walk_at "eval Call") => `(tactic| ((with_reducible show wpAny _ _ (eval (PySem.Expr.Call (PySem.Expr.Name _ _) _ [] _) _) _ _ _); k_dflt (refine Call_ ?_)))
local macro_rules | `(tactic| walk1) => `(tactic| ((with_reducible show wpAny _ _ (execs (Stmt.If (PySem.Expr.Compare (PySem.Expr.Subscript _ _ _) _ _ _) _ _ _ :: _) _) _ _ _); refine Stop.into ?_))
theorem piece_c2 {w : World} {ooc : Value} {ood : Option Addr} {oosl : Array (Option Value)} {oname qual : PySem.Str} {params : Arguments} {body : List Stmt} {scope : Scope} {dV kV doc pm cdv ct : Value} {an : Option Addr}
    (ho : (Mine.hd.heap_39 w.params).lookup 119 = some ⟨ooc, ood, .func (fnOf oname qual params body scope dV kV doc pm an cdv ct), oosl⟩) {st : List Stmt} (hst : st = body.drop 17)
    {p : Program} {loose : List PySem.Str} {mean : ExcName → Option Value} {mg mb : PySem.Str → Option Value} {dp un : Nat} {gd : Option (List Code)} {fa : Addr} {cd : Value} {A₀ : Around} {g : Heap} {L : Addr} {s : Shared} {Q : Flow → Shared → Prop} {m0 : PySem.Str → Option Value}
    (B : Below A₀ g [] g) (X : (Mine.hd.heap_39 w.params).In g) (T : Top p loose mean mg mb g) (hd : dp + 40 < recursionLimit + 1) (hu : un + 20 * 40 < cLine + 3)
    {l : Addr} {vs : List Value} {ns : List Int} (hL : g.IsList l vs.toArray) (hI : IntsAre vs ns) (hn : ns.length < 64)
    {oA oB : Obj} (dA : oA.data = .cell (some (.ref l))) {sg : Array UInt8} {tsg : Tok} {ss : List Int} (dB : oB.data = .cell (some (.bytes sg tsg))) (hsg : KBw.bInts sg = ss) (hS : GoodS ss)
    {j : Nat} {rs : List Int} {us : List Value} {R0 : Addr} {n0 : Nat} {tx : Array UInt8} {tt tb tj tnum : Nat} (hj : j < ss.length) (hj2 : ss.getD j 0 = 32) (l1 : L + 1 + 1 < R0 ∧ L + 1 < R0) (hr1 : 1 ≤ rs.length) (hr2 : rs.length ≤ 12) (hrs : ∀ r ∈ rs, 0 ≤ r ∧ r < (ss.length : Int)) (hus : IntsAre us rs) (htx : KBw.bInts tx = txt ss rs) (F : Fr g L s.heap (kstB m0 [("base", .int (ss.length : Int) tb), ("blank", .int (j : Int) tj), ("ranks", .ref R0), ("text", .bytes tx tt), ("number", .int (digNum rs (ss.length : Int)) tnum)])) (N : News g L s.heap [(R0, listOf us.toArray n0), (L + 1 + 1, oB), (L + 1, oA)])
    (rest : ∀ (h9 : Heap) (tk9 : Nat) (m9 : PySem.Str → Option Value), Fr g L h9 (kstB m9 [("base", .int (ss.length : Int) tb), ("blank", .int (j : Int) tj), ("ranks", .ref R0), ("text", .bytes tx tt), ("number", .int (digNum rs (ss.length : Int)) tnum)]) → News g L h9 [(R0, listOf us.toArray n0), (L + 1 + 1, oB), (L + 1, oA)] → wpAny (model (PySem.Challenge.rw_eg5003_01.row.prog) w) (ktrTop dp un gd qual scope L fa cd (cellsFrom (L + 1) scope.names []) []) (execs (body.drop 20) (envOfC qual scope L fa cd)) Q (fun _ _ => False) { s with heap := h9, toks := tk9 })
    : wpAny (model (PySem.Challenge.rw_eg5003_01.row.prog) w) (ktrTop dp un gd qual scope L fa cd (cellsFrom (L + 1) scope.names []) []) (execs st (envOfC qual scope L fa cd)) Q (fun _ _ => False) s := by
  revert X
  k_fill
  intro X
  refine lit (by k_is) ho ?_
  intro e
  cases e
  clear ho
  subst hst
  change wpAny _ _ (execs (_ :: _) _) _ _ _
  obtain ⟨hs2, hs3, hnd, h32, hsa⟩ := id hS
  have htm : ∀ x ∈ txt ss rs, x ∈ ss := txt_mem hnd (by omega) hrs
  have htl : (txt ss rs).length = rs.length := txt_length ss rs
  have hrk : rankNum ss (txt ss rs) = digNum rs (ss.length : Int) := txt_rank hnd (by omega) hrs
  k_steps
  refine Stop.out ?_
  rename Fr _ _ _ _ => F1
  rename News _ _ _ _ => N1
  refine' (draw_ct w l vs ns 20 _ hI hn).use B F1 X N1 T rfl (hL.at fun o e => F1.keep l o e) ?hd ?hu ?_
  case hd => omega
  case hu => omega
  rintro v nw h' tk' ⟨rfl, ta20, rfl⟩ kz frz F2 N2
  clear kz frz F1 N1
  try simp only [List.cons_append, List.nil_append, List.append_nil] at N2
  k_steps
  have hat : 0 ≤ (draw ns 20).fmod ((txt ss rs).length : Int) ∧ (draw ns 20).fmod ((txt ss rs).length : Int) < (rs.length : Int) := by
    have := emod_in (a := draw ns 20) (show (0 : Int) < ((txt ss rs).length : Int) by omega)
    rw [fmod_pos _ (by omega)]
    omega
  generalize (draw ns 20).fmod ((txt ss rs).length : Int) = at0 at *
  have h19 : 0 ≤ (draw ns 19).fmod 4 ∧ (draw ns 19).fmod 4 < 4 := by
    rw [fmod_pos _ (by decide)]
    exact emod_in (by decide)
  refine Stop.out ?_
  rename Fr _ _ _ _ => F1
  rename News _ _ _ _ => N1
  refine' (draw_ct w l vs ns 19 _ hI hn).use B F1 X N1 T rfl (hL.at fun o e => F1.keep l o e) ?hd ?hu ?_
  case hd => omega
  case hu => omega
  rintro v nw h' tk' ⟨rfl, ta19, rfl⟩ kz frz F2 N2
  clear kz frz F1 N1
  try simp only [List.cons_append, List.nil_append, List.append_nil] at N2
  have hst := strange_in ((draw ns 19).fmod 4).toNat (by omega)
  have hst2 : 0 ≤ ([1, 200, 33, 0] : List Int).getD ((draw ns 19).fmod 4).toNat 0 ∧ ([1, 200, 33, 0] : List Int).getD ((draw ns 19).fmod 4).toNat 0 < 256 := by omega
  k_steps
  rename KBw.bInts (_ ++ _ ++ _) = _ => hcat
  generalize ([1, 200, 33, 0] : List Int).getD ((draw ns 19).fmod 4).toNat 0 = z at *
  have hz : ((z.toNat.toUInt8.toNat : Nat) : Int) = z := by
    rcases hst with rfl | rfl | rfl | rfl <;> rfl
  refine Stop.out ?_
  rename Fr _ _ _ _ => F1
  rename News _ _ _ _ => N1
  refine refused_use hcat hsg (by omega) (by omega) (by (simp only [List.length_append, List.length_take, List.length_drop, List.length_map, List.length_singleton]); omega) h32 ?hno B F1 X N1 T rfl (by omega) (by omega) ?_
  case hno =>
    intro hall
    have h := hall ((z.toNat.toUInt8.toNat : Nat) : Int) (by simp)
    rw [hz] at h
    have := hsa z h
    omega
  intro h8 tk8 F8 N8
  clear F1 N1
  k_steps
  refine Stop.out ?_
  rename Fr _ _ _ _ => F1
  rename News _ _ _ _ => N1
  have F9 := fr_pin [("base", .int (ss.length : Int) tb), ("blank", .int (j : Int) tj), ("ranks", .ref R0), ("text", .bytes tx tt), ("number", .int (digNum rs (ss.length : Int)) tnum)] (by simp only [List.forall_mem_cons]; exact ⟨rfl, rfl, rfl, rfl, rfl, by simp⟩) F1
  exact rest _ _ _ F9 (news_sub N1 fun _ hp => .tail _ hp)
end Mine
-- LD1
namespace Mine
local macro_rules | `(tactic| walk_at "none") => `(tactic| fail)
local macro_rules | `(tactic| walk_at "none") => `(tactic| fail)
local macro_rules | `(tactic| walk_at "none") => `(tactic| fail)
local macro_rules | `(tactic| walk_at "none") => `(tactic| fail)
local macro_rules | `(tactic| walk_at "none") => `(tactic| fail)
local macro_rules | `(tactic| walk_at "none") => `(tactic| fail)
local macro_rules | `(tactic| walk_at "none") => `(tactic| fail)
local macro_rules | `(tactic| walk_at "none") => `(tactic| fail)
theorem fresh_walk_LD1 : True := by
 w_top off
 trivial
local macro_rules | `(tactic| walk1) => `(tactic| ((with_reducible show wpAny _ _ (exec (Stmt.While _ _ _ _) _) _ _ _); refine Stop.into ?_))
local macro_rules | `(tactic| walk1) => `(tactic| ((with_reducible show wpAny _ _ (exec (Stmt.For _ _ _ _ _) _) _ _ _); refine Stop.into ?_))
local macro_rules | `(tactic| walk1) => `(tactic| ((with_reducible show wpAny _ _ (pyIter _) _ _ _); refine Stop.into ?_))
local macro_rules | `(tactic| walk1) => `(tactic| ((with_reducible show wpAny _ _ (call (Value.ref _) _ _) _ _ _); refine Stop.into ?_))
local macro_rules | `(tactic| walk_at "getMethod bytes") => `(tactic| (with_reducible refine R.lstrip_method ?_))
local macro_rules | `(tactic| walk_at "getMethod bytes") => `(tactic| (with_reducible refine R.rstrip_method ?_))
local macro_rules | `(tactic| walk_at "getMethod str") => `(tactic| (with_reducible refine R.encode_method ?_))
local macro_rules | `(tactic| walk_at "call builtin:bytes.lstrip") => `(tactic| ((with_reducible show wpAny _ _ (call (Value.builtin "bytes.lstrip") [Value.bytes _ _, Value.bytes _ _]) _ _ _); (refine R.lstrip_call (by kba_ints2) (by kba_ints2) (by kba_size) ?_); intro _ _ _ hlst))
local macro_rules | `(tactic| walk_at "call builtin:bytes.rstrip") => `(tactic| ((with_reducible show wpAny _ _ (call (Value.builtin "bytes.rstrip") [Value.bytes _ _]) _ _ _); (refine R.rstrip_call (by kba_ints2) (by kba_size) ?_); intro _ _ _ hrst))
local macro_rules | `(tactic| walk_at "callWith ref") => `(tactic| (k_here; kfb_any; k_dflt (refine' R.fb_callWith ?hN ?hM ?ha ?_; (case hN => k_asm); (case hM => k_mem); (case ha => exact rfl); k_whole)))
local macro_rules | `(tactic| walk1) => `(tactic| ((with_reducible show wpAny _ _ (binaryOp Operator.Add (Value.bytes _ _) (Value.bytes _ _)) _ _ _); first | ((refine KBa.add_K (by kba_ints2) (by kba_ints2) (by ((try simp only [List.length_replicate, List.length_append, List.length_map, List.length_take, List.length_drop, List.length_cons, List.length_nil]); omega)) ?_); intro _ _ kbaApp) | (refine Stop.into ?_)))
local macro_rules | `(tactic| walk1) => `(tactic| ((with_reducible show wpAny _ _ (exec (Stmt.Assign _ (PySem.Expr.DictComp _ _ _ _ _) _) _) _ _ _); refine Stop.into ?_))
local macro_rules | `(tactic| walk1) => `(tactic| ((with_reducible show wpAny _ _ (call (Value.type "enumerate") _ _) _ _ _); refine Stop.into ?_))
local macro_rules | `(tactic| walk_at "eval Call") => `(tactic| ((with_reducible show wpAny _ _ (eval (PySem.Expr.Call (PySem.Expr.Name _ _) _ [] _) _) _ _ _); k_dflt (refine Call_ ?_)))
local macro_rules | `(tactic| walk1) => `(tactic| ((with_reducible show wpAny _ _ (execs (Stmt.Assign [PySem.Expr.Name ("row" : PySem.Str) _] _ _ :: _) _) _ _ _); refine Stop.into ?_))
local macro_rules | `(tactic| walk1) => `(tactic| ((with_reducible show wpAny _ _ (compareOp _ (Value.int _ _) (Value.ref _)) _ _ _); refine Stop.into ?_))
local macro_rules | `(tactic| walk1) => `(tactic| ((with_reducible show wpAny _ _ (call (Value.type "bytes") [Value.ref _]) _ _ _); (fail_if_success (with_reducible rename Stop True => jm)); refine Stop.into ?_))
theorem piece_d {w : World} {ooc : Value} {ood : Option Addr} {oosl : Array (Option Value)} {oname qual : PySem.Str} {params : Arguments} {body : List Stmt} {scope : Scope} {dV kV doc pm cdv ct : Value} {an : Option Addr}
    (ho : (Mine.hd.heap_39 w.params).lookup 119 = some ⟨ooc, ood, .func (fnOf oname qual params body scope dV kV doc pm an cdv ct), oosl⟩) {st : List Stmt} (hst : st = body.drop 20)
    {p : Program} {loose : List PySem.Str} {mean : ExcName → Option Value} {mg mb : PySem.Str → Option Value} {dp un : Nat} {gd : Option (List Code)} {fa : Addr} {cd : Value} {A₀ : Around} {g : Heap} {L : Addr} {s : Shared} {Q : Flow → Shared → Prop} {m0 : PySem.Str → Option Value}
    (B : Below A₀ g [] g) (X : (Mine.hd.heap_39 w.params).In g) (T : Top p loose mean mg mb g) (hd : dp + 40 < recursionLimit + 1) (hu : un + 20 * 40 < cLine + 3)
    {l : Addr} {vs : List Value} {ns : List Int} (hL : g.IsList l vs.toArray) (hI : IntsAre vs ns) (hn : ns.length < 64)
    {oA oB : Obj} (dA : oA.data = .cell (some (.ref l))) {sg : Array UInt8} {tsg : Tok} {ss : List Int} (dB : oB.data = .cell (some (.bytes sg tsg))) (hsg : KBw.bInts sg = ss) (hS : GoodS ss)
    {j : Nat} {rs : List Int} {us : List Value} {R0 : Addr} {n0 : Nat} {tx : Array UInt8} {tt tb tj tnum : Nat} (hj : j < ss.length) (hj2 : ss.getD j 0 = 32) (l1 : L + 1 + 1 < R0 ∧ L + 1 < R0) (hr1 : 1 ≤ rs.length) (hr2 : rs.length ≤ 12) (hrs : ∀ r ∈ rs, 0 ≤ r ∧ r < (ss.length : Int)) (hus : IntsAre us rs) (htx : KBw.bInts tx = txt ss rs) (F : Fr g L s.heap (kstB m0 [("base", .int (ss.length : Int) tb), ("blank", .int (j : Int) tj), ("ranks", .ref R0), ("text", .bytes tx tt), ("number", .int (digNum rs (ss.length : Int)) tnum)])) (N : News g L s.heap [(R0, listOf us.toArray n0), (L + 1 + 1, oB), (L + 1, oA)])
    (rest : ∀ (h9 : Heap) (tk9 : Nat) (m9 : PySem.Str → Option Value), Fr g L h9 (kstB m9 [("base", .int (ss.length : Int) tb), ("blank", .int (j : Int) tj), ("ranks", .ref R0), ("text", .bytes tx tt), ("number", .int (digNum rs (ss.length : Int)) tnum)]) → News g L h9 [(R0, listOf us.toArray n0), (L + 1 + 1, oB), (L + 1, oA)] → wpAny (model (PySem.Challenge.rw_eg5003_01.row.prog) w) (ktrTop dp un gd qual scope L fa cd (cellsFrom (L + 1) scope.names []) []) (execs (body.drop 21) (envOfC qual scope L fa cd)) Q (fun _ _ => False) { s with heap := h9, toks := tk9 })
    : wpAny (model (PySem.Challenge.rw_eg5003_01.row.prog) w) (ktrTop dp un gd qual scope L fa cd (cellsFrom (L + 1) scope.names []) []) (execs st (envOfC qual scope L fa cd)) Q (fun _ _ => False) s := by
  revert X
  k_fill
  intro X
  refine lit (by k_is) ho ?_
  intro e
  cases e
  clear ho
  subst hst
  change wpAny _ _ (execs (_ :: _) _) _ _ _
  obtain ⟨hs2, hs3, hnd, h32, hsa⟩ := id hS
  have htm : ∀ x ∈ txt ss rs, x ∈ ss := txt_mem hnd (by omega) hrs
  have htl : (txt ss rs).length = rs.length := txt_length ss rs
  have hrk : rankNum ss (txt ss rs) = digNum rs (ss.length : Int) := txt_rank hnd (by omega) hrs
  have hno : nough rs ≤ rs.length := nough_le rs
  k_steps
  refine Stop.out ?_
  rename Fr _ _ _ _ => F1
  refine' notin_tuple_ints (tup_in (X.keeps F1.keep) ?g) ?hi ?_
  case g => k_is
  case hi => exact .cons 9 _ (.cons 32 _ .nil)
  k_steps
  · refine Stop.out ?_
    rename Fr _ _ _ _ => F1
    rename News _ _ _ _ => N1
    have F9 := fr_pin [("base", .int (ss.length : Int) tb), ("blank", .int (j : Int) tj), ("ranks", .ref R0), ("text", .bytes tx tt), ("number", .int (digNum rs (ss.length : Int)) tnum)] (by simp only [List.forall_mem_cons]; exact ⟨rfl, rfl, rfl, rfl, rfl, by simp⟩) F1
    exact rest _ _ _ F9 (news_sub N1 fun _ hp => hp)
  refine Stop.out ?_
  rename Fr _ _ _ _ => F1
  rename News _ _ _ _ => N1
  refine' (noughts_l_ct w R0 us rs hus (by omega)).use B F1 X N1 T rfl (News.isList N1 (.tail _ (.head _))) ?hd ?hu ?_
  case hd => omega
  case hu => omega
  rintro v nw h' tk' ⟨rfl, tno, rfl⟩ kz frz F2 N2
  clear kz frz F1 N1
  try simp only [List.cons_append, List.nil_append, List.append_nil] at N2
  k_steps
  refine Stop.out ?_
  rename Fr _ _ _ _ => F1
  rename News _ _ _ _ => N1
  refine' (carried_l_ct w R0 us rs (ss.length : Int) 256 _ _ hus (fun k hk => by have := hrs k hk; omega) (by omega) (by omega) (by decide) (fun i => Nat.le_trans (carried_len (by omega) (by omega) (by decide) (fun k hk => hrs k (List.mem_of_mem_take hk)) (by rw [List.length_take]; omega)) (by decide))).use B F1 X N1 T rfl (News.isList N1 (.tail _ (.tail _ (.head _)))) ?hd ?hu ?_
  case hd => omega
  case hu => omega
  rintro v nw h' tk' ⟨C0, uc, nc, rfl, rfl, huc⟩ kz frz F2 N2
  clear kz frz F1 N1
  try simp only [List.cons_append, List.nil_append, List.append_nil] at N2
  have hcl : (List.foldl (carr (ss.length : Int) 256) [] rs).length ≤ 96 := carried_len (by omega) (by omega) (by decide) hrs hr2
  have hcd : ∀ d ∈ List.foldl (carr (ss.length : Int) 256) [] rs, 0 ≤ d ∧ d < 256 := foldl_carr_in (by decide) rs [] (by simp)
  have hdec := dec_txt hnd (by omega) hrs
  generalize List.foldl (carr (ss.length : Int) 256) [] rs = cs at *
  have hcl2 : cs.reverse.length ≤ 96 := by
    rw [List.length_reverse]
    exact hcl
  have hcd2 : ∀ d ∈ cs.reverse, 0 ≤ d ∧ d < 256 := fun d hd => hcd d (List.mem_reverse.mp hd)
  generalize cs.reverse = cr at *
  have hucz : uc.toArray.size ≤ 96 := by
    rw [List.size_toArray, huc.length]
    exact hcl2
  clear hcl hcd
  k_steps
  refine Stop.out ?_
  rename IntsAre _ (_ ++ _) => hI5
  rw [Int.toNat_natCast, flat_rep1] at hI5
  have hTd : ∀ d ∈ List.replicate (nough rs) 0 ++ cr, 0 ≤ d ∧ d < 256 := fun d hd => by
    rcases List.mem_append.mp hd with hd | hd
    · rw [List.eq_of_mem_replicate hd]
      decide
    · exact hcd2 d hd
  have hTl : (List.replicate (nough rs) 0 ++ cr).length ≤ 108 := by
    rw [List.length_append, List.length_replicate]
    omega
  generalize List.replicate (nough rs) 0 ++ cr = ts at *
  have jm : Stop True := trivial
  k_steps
  rename List.any _ _ = false => hany
  rename KBa.In ts => hin
  have hlast : ∀ z, (txt ss rs).getLast? = some z → z ∈ ss ∧ z ≠ 9 ∧ z ≠ 32 := by
    intro z hz
    refine ⟨htm z (List.mem_of_getLast? hz), ?_⟩
    have e1 : (-1 + ((txt ss rs).length : Int)).toNat = (txt ss rs).length - 1 := by omega
    rw [e1, List.getD_eq_getElem?_getD, ← List.getLast?_eq_getElem?, hz] at hany
    simp only [List.any_cons, List.any_nil, Bool.or_false, Bool.or_eq_false_iff, beq_eq_false_iff_ne, Option.getD_some] at hany
    exact ⟨fun e => hany.1 e.symm, fun e => hany.2 e.symm⟩
  have hend : ((txt ss rs).reverse.dropWhile R.spaceI).reverse = txt ss rs := last_keep fun z hz => by
    obtain ⟨h1, h2, h3⟩ := hlast z hz
    have := hsa z h1
    unfold R.spaceI
    exact decide_eq_false (by omega)
  have hled : (ledI 256 (rankNum ss (List.drop (lead (ss.getD 0 0) (txt ss rs)) (txt ss rs)))).length ≤ 5000 := by
    have := congrArg List.length hdec
    rw [List.length_append, List.length_reverse] at this
    omega
  clear hany
  refine Stop.out ?_
  rename Fr _ _ _ _ => F1
  rename News _ _ _ _ => N1
  refine' (b58_b_ct w tx sg (txt ss rs) ss _ _ htx hsg (by omega) (by omega) (by omega) h32 htm hend hled).use B F1 X N1 T rfl (trivial) ?hd ?hu ?_
  case hd => omega
  case hu => omega
  rintro v nw h' tk' ⟨rfl, bk, tbk, rfl, hbk⟩ kz frz F2 N2
  clear kz frz F1 N1
  try simp only [List.cons_append, List.nil_append, List.append_nil] at N2
  have hbk2 : bk.toList = (byteArr ts).toList := bytes_eq (hbk.trans (hdec.trans (KBa.ints_make hin).symm))
  k_steps
  · rename (bk.toList != _) = true => hne
    rw [hbk2] at hne
    simp at hne
  refine Stop.out ?_
  rename Fr _ _ _ _ => F1
  rename News _ _ _ _ => N1
  refine' (plain_ct w tx _ (txt ss rs) htx (by omega)).use B F1 X N1 T rfl (trivial) ?hd ?hu ?_
  case hd => omega
  case hu => omega
  rintro v nw h' tk' ⟨rfl, x, tx2, rfl, hx⟩ kz frz F2 N2
  clear kz frz F1 N1
  try simp only [List.cons_append, List.nil_append, List.append_nil] at N2
  have hxl : x.length = rs.length := by
    show x.cps.size = _
    rw [← Array.length_toList, hx, List.length_map, htl]
  have hxa : ∀ c ∈ x.cps, c < 128 := fun c hc => by
    have hc' : c ∈ x.cps.toList := by simpa using hc
    rw [hx] at hc'
    obtain ⟨y, hy, rfl⟩ := List.mem_map.mp hc'
    have := hsa y (htm y hy)
    omega
  have hxb : KBw.bInts (x.cps.map fun c => c.toUInt8) = txt ss rs := plain_ints hx fun k hk => by
    have := hsa k (htm k hk)
    omega
  have hend2 : Txt.rstrip x = x := rstrip_keep (fun c hc => hxa c (by simpa using hc)) (fun c hc => by
    rw [hx, List.getLast?_map] at hc
    obtain ⟨z, hz, rfl⟩ := Option.map_eq_some_iff.mp hc
    obtain ⟨h1, h2, h3⟩ := hlast z hz
    have := hsa z h1
    omega)
  k_steps
  refine Stop.out ?_
  rename Fr _ _ _ _ => F1
  rename News _ _ _ _ => N1
  refine' (b58_s_ct w x sg (txt ss rs) ss _ _ hxa (by omega) hxb hsg (by omega) (by omega) (by omega) h32 htm hend2 hled).use B F1 X N1 T rfl (trivial) ?hd ?hu ?_
  case hd => omega
  case hu => omega
  rintro v nw h' tk' ⟨rfl, bk2, tbk2, rfl, hbk3⟩ kz frz F2 N2
  clear kz frz F1 N1
  try simp only [List.cons_append, List.nil_append, List.append_nil] at N2
  have hbk4 : bk2.toList = (byteArr ts).toList := bytes_eq (hbk3.trans (hdec.trans (KBa.ints_make hin).symm))
  k_steps
  · rename (bk2.toList != _) = true => hne
    rw [hbk4] at hne
    simp at hne
  · refine Stop.out ?_
    rename Fr _ _ _ _ => F1
    rename News _ _ _ _ => N1
    have F9 := fr_pin [("base", .int (ss.length : Int) tb), ("blank", .int (j : Int) tj), ("ranks", .ref R0), ("text", .bytes tx tt), ("number", .int (digNum rs (ss.length : Int)) tnum)] (by simp only [List.forall_mem_cons]; exact ⟨rfl, rfl, rfl, rfl, rfl, by simp⟩) F1
    exact rest _ _ _ F9 (news_sub N1 fun _ hp => .tail _ (.tail _ (.tail _ (.tail _ hp))))
end Mine
-- LE1
namespace Mine
local macro_rules | `(tactic| walk_at "none") => `(tactic| fail)
local macro_rules | `(tactic| walk_at "none") => `(tactic| fail)
local macro_rules | `(tactic| walk_at "none") => `(tactic| fail)
local macro_rules | `(tactic| walk_at "none") => `(tactic| fail)
local macro_rules | `(tactic| walk_at "none") => `(tactic| fail)
local macro_rules | `(tactic| walk_at "none") => `(tactic| fail)
local macro_rules | `(tactic| walk_at "none") => `(tactic| fail)
theorem fresh_walk_LE1 : True := by
 w_top off
 trivial
local macro_rules | `(tactic| walk1) => `(tactic| ((with_reducible show wpAny _ _ (exec (Stmt.While _ _ _ _) _) _ _ _); refine Stop.into ?_))
local macro_rules | `(tactic| walk1) => `(tactic| ((with_reducible show wpAny _ _ (exec (Stmt.For _ _ _ _ _) _) _ _ _); refine Stop.into ?_))
local macro_rules | `(tactic| walk1) => `(tactic| ((with_reducible show wpAny _ _ (pyIter _) _ _ _); refine Stop.into ?_))
local macro_rules | `(tactic| walk1) => `(tactic| ((with_reducible show wpAny _ _ (call (Value.ref _) _ _) _ _ _); refine Stop.into ?_))
local macro_rules | `(tactic| walk_at "getMethod bytes") => `(tactic| (with_reducible refine R.lstrip_method ?_))
local macro_rules | `(tactic| walk_at "getMethod bytes") => `(tactic| (with_reducible refine R.rstrip_method ?_))
local macro_rules | `(tactic| walk_at "getMethod str") => `(tactic| (with_reducible refine R.encode_method ?_))
local macro_rules | `(tactic| walk_at "call builtin:bytes.lstrip") => `(tactic| ((with_reducible show wpAny _ _ (call (Value.builtin "bytes.lstrip") [Value.bytes _ _, Value.bytes _ _]) _ _ _); (refine R.lstrip_call (by kba_ints2) (by kba_ints2) (by kba_size) ?_); intro _ _ _ hlst))
local macro_rules | `(tactic| walk_at "call builtin:bytes.rstrip") => `(tactic| ((with_reducible show wpAny _ _ (call (Value.builtin "bytes.rstrip") [Value.bytes _ _]) _ _ _); (refine R.rstrip_call (by kba_ints2) (by kba_size) ?_); intro _ _ _ hrst))
local macro_rules | `(tactic| walk_at "callWith ref") => `(tactic| (k_here; kfb_any; k_dflt (refine' R.fb_callWith ?hN ?hM ?ha ?_; (case hN => k_asm); (case hM => k_mem); (case ha => exact rfl); k_whole)))
local macro_rules | `(tactic| walk1) => `(tactic| ((with_reducible show wpAny _ _ (binaryOp Operator.Add (Value.bytes _ _) (Value.bytes _ _)) _ _ _); first | ((refine KBa.add_K (by kba_ints2) (by kba_ints2) (by ((try simp only [List.length_replicate, List.length_append, List.length_map, List.length_take, List.length_drop, List.length_cons, List.length_nil]); omega)) ?_); intro _ _ kbaApp) | (refine Stop.into ?_)))
local macro_rules | `(tactic| walk1) => `(tactic| ((with_reducible show wpAny _ _ (exec (Stmt.Assign _ (PySem.Expr.DictComp _ _ _ _ _) _) _) _ _ _); refine Stop.into ?_))
local macro_rules | `(tactic| walk1) => `(tactic| ((with_reducible show wpAny _ _ (call (Value.type "enumerate") _ _) _ _ _); refine Stop.into ?_))
local macro_rules | `(tactic| walk_at "eval Call") => `(tactic| ((with_reducible show wpAny _ _ (eval (PySem.Expr.Call (PySem.Expr.Name _ _) _ [] _) _) _ _ _); k_dflt (refine Call_ ?_)))
local macro_rules | `(tactic| walk1) => `(tactic| ((with_reducible show wpAny _ _ (execs (Stmt.If _ _ _ _ :: _) _) _ _ _); refine Stop.into ?_))
local macro_rules | `(tactic| walk1) => `(tactic| ((with_reducible show wpAny _ _ (exec (Stmt.Assign _ (PySem.Expr.ListComp _ _ _ _) _) _) _ _ _); refine Stop.into ?_))
local macro_rules | `(tactic| walk1) => `(tactic| ((with_reducible show wpAny _ _ (eval (PySem.Expr.ListComp _ _ _ _) _) _ _ _); refine Stop.into ?_))
local macro_rules | `(tactic| walk1) => `(tactic| ((with_reducible show wpAny _ _ (call (Value.type "bytes") [Value.ref _]) _ _ _); (fail_if_success (with_reducible rename Stop True => jm)); refine Stop.into ?_))
local macro_rules | `(tactic| walk1) => `(tactic| ((with_reducible show LCg.CompSrc _ _ _ _ _ _ _ _ _ _ _ _ _ _); refine Stop.into ?_))
theorem piece_e {w : World} {ooc : Value} {ood : Option Addr} {oosl : Array (Option Value)} {oname qual : PySem.Str} {params : Arguments} {body : List Stmt} {scope : Scope} {dV kV doc pm cdv ct : Value} {an : Option Addr}
    (ho : (Mine.hd.heap_39 w.params).lookup 119 = some ⟨ooc, ood, .func (fnOf oname qual params body scope dV kV doc pm an cdv ct), oosl⟩) {st : List Stmt} (hst : st = body.drop 21)
    {p : Program} {loose : List PySem.Str} {mean : ExcName → Option Value} {mg mb : PySem.Str → Option Value} {dp un : Nat} {gd : Option (List Code)} {fa : Addr} {cd : Value} {A₀ : Around} {g : Heap} {L : Addr} {s : Shared} {Q : Flow → Shared → Prop} {m0 : PySem.Str → Option Value}
    (B : Below A₀ g [] g) (X : (Mine.hd.heap_39 w.params).In g) (T : Top p loose mean mg mb g) (hd : dp + 40 < recursionLimit + 1) (hu : un + 20 * 40 < cLine + 3)
    {l : Addr} {vs : List Value} {ns : List Int} (hL : g.IsList l vs.toArray) (hI : IntsAre vs ns) (hn : ns.length < 64)
    {oA oB : Obj} (dA : oA.data = .cell (some (.ref l))) {sg : Array UInt8} {tsg : Tok} {ss : List Int} (dB : oB.data = .cell (some (.bytes sg tsg))) (hsg : KBw.bInts sg = ss) (hS : GoodS ss)
    {j : Nat} {rs : List Int} {us : List Value} {R0 : Addr} {n0 : Nat} {tx : Array UInt8} {tt tb tj tnum : Nat} (hj : j < ss.length) (hj2 : ss.getD j 0 = 32) (l1 : L + 1 + 1 < R0 ∧ L + 1 < R0) (hr1 : 1 ≤ rs.length) (hr2 : rs.length ≤ 12) (hrs : ∀ r ∈ rs, 0 ≤ r ∧ r < (ss.length : Int)) (hus : IntsAre us rs) (htx : KBw.bInts tx = txt ss rs) (F : Fr g L s.heap (kstB m0 [("base", .int (ss.length : Int) tb), ("blank", .int (j : Int) tj), ("ranks", .ref R0), ("text", .bytes tx tt), ("number", .int (digNum rs (ss.length : Int)) tnum)])) (N : News g L s.heap [(R0, listOf us.toArray n0), (L + 1 + 1, oB), (L + 1, oA)])
    (rest : ∀ (h9 : Heap) (tk9 : Nat) (m9 : PySem.Str → Option Value) (os : List Int) (gt : Array UInt8) (to1 tw1 tg1 : Nat), (∀ d ∈ os, 0 ≤ d ∧ d < 256) → os.length ≤ 8 → KBw.bInts gt = encT ss os → (encT ss os).length ≤ 104 → (encI ss (digNum os 256)).length ≤ 96 → Fr g L h9 (kstB m9 [("octets", .bytes (byteArr os) to1), ("wanted", .bytes (byteArr (encT ss os)) tw1), ("got", .bytes gt tg1)]) → News g L h9 [(L + 1 + 1, oB), (L + 1, oA)] → wpAny (model (PySem.Challenge.rw_eg5003_01.row.prog) w) (ktrTop dp un gd qual scope L fa cd (cellsFrom (L + 1) scope.names []) []) (execs (body.drop 25) (envOfC qual scope L fa cd)) Q (fun _ _ => False) { s with heap := h9, toks := tk9 })
    : wpAny (model (PySem.Challenge.rw_eg5003_01.row.prog) w) (ktrTop dp un gd qual scope L fa cd (cellsFrom (L + 1) scope.names []) []) (execs st (envOfC qual scope L fa cd)) Q (fun _ _ => False) s := by
  revert X
  k_fill
  intro X
  refine lit (by k_is) ho ?_
  intro e
  cases e
  clear ho
  subst hst
  change wpAny _ _ (execs (_ :: _) _) _ _ _
  obtain ⟨hs2, hs3, hnd, h32, hsa⟩ := id hS
  have htm : ∀ x ∈ txt ss rs, x ∈ ss := txt_mem hnd (by omega) hrs
  have htl : (txt ss rs).length = rs.length := txt_length ss rs
  have hrk : rankNum ss (txt ss rs) = digNum rs (ss.length : Int) := txt_rank hnd (by omega) hrs
  k_steps
  refine Stop.out ?_
  rename Fr _ _ _ _ => F1
  refine LCg.Assign_ListComp_U F1 (by rfl) (by with_unfolding_all rfl) (by with_unfolding_all rfl) (by decide) (by rfl) (by decide) (by rfl) (by rfl) (by rfl) ?_
  k_steps
  refine Stop.out ?_
  rename Fr _ _ _ _ => F1
  rename News _ _ _ _ => N1
  refine' (draw_ct w l vs ns 21 _ hI hn).use B F1 X N1 T rfl (hL.at fun o e => F1.keep l o e) ?hd ?hu ?_
  case hd => omega
  case hu => omega
  rintro v nw h' tk' ⟨rfl, ta21, rfl⟩ kz frz F2 N2
  clear kz frz F1 N1
  try simp only [List.cons_append, List.nil_append, List.append_nil] at N2
  k_steps
  obtain ⟨cnt, hcnt, hc2⟩ : ∃ n : Nat, (draw ns 21).fmod 9 = (n : Int) ∧ n ≤ 8 := by
    have := emod_in (a := draw ns 21) (show (0 : Int) < 9 by decide)
    rw [fmod_pos _ (by decide)]
    exact ⟨(draw ns 21 % 9).toNat, by omega, by omega⟩
  rename Fr _ _ _ _ => F1
  rename News _ _ _ _ => N1
  rename IsRange _ _ _ _ _ _ _ _ => R1
  rw [hcnt] at R1
  refine Stop.out ?_
  refine LCg.CompSrc.range (n := cnt) (by rfl) F1 N1 R1 (rsmall _ (by omega)) (rs_one _) (by rw [sizeLine_eq]; omega) (fun g' => ?_)
  refine kcf_range (fun k => draw ns (22 + k)) ?_ ?_
  · intro k t I oI C oC D' m₂ ys h tk E' hk0 hk1 hC hx F N off ne mk
    k_steps
    refine Stop.out ?_
    refine' (draw_ct w l vs ns (22 + k) _ hI hn).use B F X N T rfl (hL.at fun o e => F.keep l o e) ?hd ?hu ?_
    case hd => omega
    case hu => omega
    rintro v nw h' tk' ⟨rfl, tax, rfl⟩ kz frz F2 N2
    clear kz frz F N
    simp only [List.nil_append] at N2
    k_steps
  unfold KPfDone
  intro ys hys D h tk F N off
  have hxl : (List.map (fun k => draw ns (22 + k)) (rangeKs 0 cnt)).length = cnt := by
    rw [List.length_map, rangeKs_length]
  generalize List.map (fun k => draw ns (22 + k)) (rangeKs 0 cnt) = xs at *
  clear R1
  k_steps
  refine Stop.out ?_
  refine LCg.ListComp_U F (by with_unfolding_all rfl) (by decide) (by rfl) (by decide) (by rfl) ?_
  refine nameX_L F (v := .ref D) (by rfl) ?_
  refine LCg.CompSrc.ledger (by rfl) F N (.head _) (by rw [sizeLine_eq, List.size_toArray, hys.length]; omega) (fun g' => ?_)
  refine kcf_list (fun x => if x.fmod 4 = 0 then 0 else (x.fdiv 4).fmod 256) hys ?_ ?_
  · intro k t I oI C oC D' m₂ ys h tk E' hk hC hx F N off ne mk
    k_steps
  unfold KPfDone
  intro ys2 hys2 D2 h tk F2 N2 off2
  have hod : ∀ d ∈ List.map (fun x : Int => if x.fmod 4 = 0 then 0 else (x.fdiv 4).fmod 256) xs, 0 ≤ d ∧ d < 256 := fun d hd => by
    obtain ⟨x, _, rfl⟩ := List.mem_map.mp hd
    split
    · decide
    · rw [fmod_pos _ (by decide)]
      exact emod_in (by decide)
  have hol : (List.map (fun x : Int => if x.fmod 4 = 0 then 0 else (x.fdiv 4).fmod 256) xs).length ≤ 8 := by
    rw [List.length_map]
    omega
  generalize List.map (fun x : Int => if x.fmod 4 = 0 then 0 else (x.fdiv 4).fmod 256) xs = os at *
  have hno2 : nough os ≤ os.length := nough_le os
  have jm : Stop True := trivial
  k_steps
  clear jm
  rename KBa.In os => hin
  have hob := KBa.ints_make hin
  refine Stop.out ?_
  rename Fr _ _ _ _ => F1
  rename News _ _ _ _ => N1
  refine' (noughts_b_ct w (byteArr os) _ os hob (by omega)).use B F1 X N1 T rfl (trivial) ?hd ?hu ?_
  case hd => omega
  case hu => omega
  rintro v nw h' tk' ⟨rfl, tno, rfl⟩ kz frz F2 N2
  clear kz frz F1 N1
  try simp only [List.cons_append, List.nil_append, List.append_nil] at N2
  k_steps
  rename 0 ≤ ss.getD _ _ => z1
  rename ss.getD _ _ < 256 => z2
  clear z1 z2
  rename Fr _ _ _ _ => F5
  refine Stop.out ?_
  refine LCg.ListComp_U F5 (by with_unfolding_all rfl) (by decide) (by rfl) (by decide) (by rfl) ?_
  k_steps
  refine Stop.out ?_
  rename Fr _ _ _ _ => F1
  rename News _ _ _ _ => N1
  refine' (carried_b_ct w (byteArr os) _ os 256 (ss.length : Int) _ _ hob (by omega) (by decide) (by omega) (fun i => Nat.le_trans (carried_len (by decide) (by decide) (by omega) (fun k hk => hod k (List.mem_of_mem_take hk)) (by rw [List.length_take]; omega)) (by decide))).use B F1 X N1 T rfl (trivial) ?hd ?hu ?_
  case hd => omega
  case hu => omega
  rintro v nw h' tk' ⟨C0, uc, nc, rfl, rfl, huc⟩ kz frz F2 N2
  clear kz frz F1 N1
  try simp only [List.cons_append, List.nil_append, List.append_nil] at N2
  have hcl : (List.foldl (carr 256 (ss.length : Int)) [] os).length ≤ 96 := carried_len (by decide) (by decide) (by omega) hod (by omega)
  have hcd : ∀ d ∈ List.foldl (carr 256 (ss.length : Int)) [] os, 0 ≤ d ∧ d < (ss.length : Int) := foldl_carr_in (by omega) os [] (by simp)
  have hwan := wanted_enc (ss := ss) (by omega) (os := os) fun k hk => (hod k hk).1
  generalize List.foldl (carr 256 (ss.length : Int)) [] os = cs at *
  have hcl2 : cs.reverse.length ≤ 96 := by
    rw [List.length_reverse]
    exact hcl
  have hcd2 : ∀ d ∈ cs.reverse, 0 ≤ d ∧ d < (ss.length : Int) := fun d hd => hcd d (List.mem_reverse.mp hd)
  generalize cs.reverse = cr at *
  have hucz : uc.toArray.size ≤ 96 := by
    rw [List.size_toArray, huc.length]
    exact hcl2
  clear hcl hcd
  k_steps
  refine Stop.out ?_
  refine LCg.CompSrc.ledger (by rfl) F2 N2 (.head _) (by rw [sizeLine_eq]; omega) (fun g' => ?_)
  refine kcf_list (fun k => ss.getD k.toNat 0) huc ?_ ?_
  · intro k t I oI C oC D' m₂ ys h tk E' hk hC hx F N off ne mk
    have hkr := hcd2 k hk
    k_steps
  unfold KPfDone
  intro ys3 hys3 D3 h tk F3 N3 off3
  have hys4 : IntsAre ys3 (txt ss cr) := hys3
  have htc : (txt ss cr).length = cr.length := txt_length ss cr
  have hte : ∀ d ∈ txt ss cr, d ∈ ss := txt_mem hnd (by omega) hcd2
  clear hys3
  k_steps
  refine Stop.out ?_
  rename IntsAre _ (_ ++ _) => hI5
  rw [Int.toNat_natCast, flat_rep1] at hI5
  have hwe : List.replicate (nough os) (ss.getD (Int.toNat 0) 0) ++ txt ss cr = encT ss os := by
    rw [hwan]
    rfl
  rw [hwe] at hI5
  have hWm : ∀ d ∈ encT ss os, d ∈ ss := encT_mem hnd (by omega)
  have hWd : ∀ d ∈ encT ss os, 0 ≤ d ∧ d < 256 := fun d hd => by
    have := hsa d (hWm d hd)
    omega
  have hEl : (encI ss (digNum os 256)).length ≤ 96 := by
    rw [← hwan, htc]
    exact hcl2
  have hWl : (encT ss os).length ≤ 104 := by
    unfold encT
    rw [List.length_append, List.length_replicate]
    omega
  have jm : Stop True := trivial
  k_steps
  clear jm
  rename KBa.In (encT ss os) => hin2
  refine Stop.out ?_
  rename Fr _ _ _ _ => F1
  rename News _ _ _ _ => N1
  refine' (enc_ct w (byteArr os) sg os ss _ _ hob hsg (by omega) (by omega) (by omega) (by omega)).use B F1 X N1 T rfl (trivial) ?hd ?hu ?_
  case hd => omega
  case hu => omega
  rintro v nw h' tk' ⟨rfl, gt, tg1, rfl, hgt⟩ kz frz F2 N2
  clear kz frz F1 N1
  try simp only [List.cons_append, List.nil_append, List.append_nil] at N2
  k_steps
  refine Stop.out ?_
  rename Fr _ _ _ _ => F7
  rename News _ _ _ _ => N7
  obtain ⟨to1, tw1, F9⟩ : ∃ to1 tw1, Fr g L _ (kstB _ [("octets", .bytes (byteArr os) to1), ("wanted", .bytes (byteArr (encT ss os)) tw1), ("got", .bytes gt tg1)]) := ⟨_, _, fr_pin [("octets", .bytes (byteArr os) _), ("wanted", .bytes (byteArr (encT ss os)) _), ("got", .bytes gt tg1)] (by simp only [List.forall_mem_cons]; exact ⟨rfl, rfl, rfl, by simp⟩) F7⟩
  exact rest _ _ _ os gt to1 tw1 tg1 hod hol hgt hWl hEl F9 (news_sub N7 fun p hp => by
    rcases List.mem_cons.mp hp with rfl | hp
    · simp
    · rw [List.mem_singleton.mp hp]
      simp)
end Mine
-- LF1
namespace Mine
local macro_rules | `(tactic| walk_at "none") => `(tactic| fail)
local macro_rules | `(tactic| walk_at "none") => `(tactic| fail)
local macro_rules | `(tactic| walk_at "none") => `(tactic| fail)
local macro_rules | `(tactic| walk_at "none") => `(tactic| fail)
local macro_rules | `(tactic| walk_at "none") => `(tactic| fail)
local macro_rules | `(tactic| walk_at "none") => `(tactic| fail)
local macro_rules | `(tactic| walk_at "none") => `(tactic| fail)
local macro_rules | `(tactic| walk_at "none") => `(tactic| fail)
theorem fresh_walk_LF1 : True := by
 w_top off
 trivial
local macro_rules | `(tactic| walk1) => `(tactic| ((with_reducible show wpAny _ _ (exec (Stmt.While _ _ _ _) _) _ _ _); refine Stop.into ?_))
local macro_rules | `(tactic| walk1) => `(tactic| ((with_reducible show wpAny _ _ (exec (Stmt.For _ _ _ _ _) _) _ _ _); refine Stop.into ?_))
local macro_rules | `(tactic| walk1) => `(tactic| ((with_reducible show wpAny _ _ (pyIter _) _ _ _); refine Stop.into ?_))
local macro_rules | `(tactic| walk1) => `(tactic| ((with_reducible show wpAny _ _ (call (Value.ref _) _ _) _ _ _); refine Stop.into ?_))
local macro_rules | `(tactic| walk_at "getMethod bytes") => `(tactic| (with_reducible refine R.lstrip_method ?_))
local macro_rules | `(tactic| walk_at "getMethod bytes") => `(tactic| (with_reducible refine R.rstrip_method ?_))
local macro_rules | `(tactic| walk_at "getMethod str") => `(tactic| (with_reducible refine R.encode_method ?_))
local macro_rules | `(tactic| walk_at "call builtin:bytes.lstrip") => `(tactic| ((with_reducible show wpAny _ _ (call (Value.builtin "bytes.lstrip") [Value.bytes _ _, Value.bytes _ _]) _ _ _); (refine R.lstrip_call (by kba_ints2) (by kba_ints2) (by kba_size) ?_); intro _ _ _ hlst))
local macro_rules | `(tactic| walk_at "call builtin:bytes.rstrip") => `(tactic| ((with_reducible show wpAny _ _ (call (Value.builtin "bytes.rstrip") [Value.bytes _ _]) _ _ _); (refine R.rstrip_call (by kba_ints2) (by kba_size) ?_); intro _ _ _ hrst))
local macro_rules | `(tactic| walk_at "callWith ref") => `(tactic| (k_here; kfb_any; k_dflt (refine' R.fb_callWith ?hN ?hM ?ha ?_; (case hN => k_asm); (case hM => k_mem); (case ha => exact rfl); k_whole)))
local macro_rules | `(tactic| walk1) => `(tactic| ((with_reducible show wpAny _ _ (binaryOp Operator.Add (Value.bytes _ _) (Value.bytes _ _)) _ _ _); first | ((refine KBa.add_K (by kba_ints2) (by kba_ints2) (by ((try simp only [List.length_replicate, List.length_append, List.length_map, List.length_take, List.length_drop, List.length_cons, List.length_nil]); omega)) ?_); intro _ _ kbaApp) | (refine Stop.into ?_)))
local macro_rules | `(tactic| walk1) => `(tactic| ((with_reducible show wpAny _ _ (exec (Stmt.Assign _ (PySem.Expr.DictComp _ _ _ _ _) _) _) _ _ _); refine Stop.into ?_))
local macro_rules | `(tactic| walk1) => `(tactic| ((with_reducible show wpAny _ _ (call (Value.type "enumerate") _ _) _ _ _); refine Stop.into ?_))
local macro_rules | `(tactic| walk_at "eval Call") => `(tactic| ((with_reducible show wpAny _ _ (eval (PySem.Expr.Call (PySem.Expr.Name _ _) _ [] _) _) _ _ _); k_dflt (refine Call_ ?_)))
local macro_rules | `(tactic| walk1) => `(tactic| ((with_reducible show wpAny _ _ (compareOp _ (Value.int _ _) (Value.ref _)) _ _ _); refine Stop.into ?_))
theorem piece_f {w : World} {ooc : Value} {ood : Option Addr} {oosl : Array (Option Value)} {oname qual : PySem.Str} {params : Arguments} {body : List Stmt} {scope : Scope} {dV kV doc pm cdv ct : Value} {an : Option Addr}
    (ho : (Mine.hd.heap_39 w.params).lookup 119 = some ⟨ooc, ood, .func (fnOf oname qual params body scope dV kV doc pm an cdv ct), oosl⟩) {st : List Stmt} (hst : st = body.drop 25)
    {p : Program} {loose : List PySem.Str} {mean : ExcName → Option Value} {mg mb : PySem.Str → Option Value} {dp un : Nat} {gd : Option (List Code)} {fa : Addr} {cd : Value} {A₀ : Around} {g : Heap} {L : Addr} {s : Shared} {Q : Flow → Shared → Prop} {m0 : PySem.Str → Option Value}
    (B : Below A₀ g [] g) (X : (Mine.hd.heap_39 w.params).In g) (T : Top p loose mean mg mb g) (hd : dp + 40 < recursionLimit + 1) (hu : un + 20 * 40 < cLine + 3)
    {l : Addr} {vs : List Value} {ns : List Int} (hL : g.IsList l vs.toArray) (hI : IntsAre vs ns) (hn : ns.length < 64)
    {oA oB : Obj} (dA : oA.data = .cell (some (.ref l))) {sg : Array UInt8} {tsg : Tok} {ss : List Int} (dB : oB.data = .cell (some (.bytes sg tsg))) (hsg : KBw.bInts sg = ss) (hS : GoodS ss)
    {os : List Int} {gt : Array UInt8} {to1 tw1 tg1 : Nat} (hod : ∀ d ∈ os, 0 ≤ d ∧ d < 256) (hol : os.length ≤ 8) (hgt : KBw.bInts gt = encT ss os) (hWl : (encT ss os).length ≤ 104) (hEl : (encI ss (digNum os 256)).length ≤ 96) (F : Fr g L s.heap (kstB m0 [("octets", .bytes (byteArr os) to1), ("wanted", .bytes (byteArr (encT ss os)) tw1), ("got", .bytes gt tg1)])) (N : News g L s.heap [(L + 1 + 1, oB), (L + 1, oA)])
    (hret : ∀ nw m9 h9 tk9, Fr g L h9 m9 → News g L h9 nw → Q (.ret (.bool true)) { s with heap := h9, toks := tk9 })
    : wpAny (model (PySem.Challenge.rw_eg5003_01.row.prog) w) (ktrTop dp un gd qual scope L fa cd (cellsFrom (L + 1) scope.names []) []) (execs st (envOfC qual scope L fa cd)) Q (fun _ _ => False) s := by
  revert X
  k_fill
  intro X
  refine lit (by k_is) ho ?_
  intro e
  cases e
  clear ho
  subst hst
  change wpAny _ _ (execs (_ :: _) _) _ _ _
  obtain ⟨hs2, hs3, hnd, h32, hsa⟩ := id hS
  have hWm : ∀ d ∈ encT ss os, d ∈ ss := encT_mem hnd (by omega)
  have hWd : ∀ d ∈ encT ss os, 0 ≤ d ∧ d < 256 := fun d hd => by
    have := hsa d (hWm d hd)
    omega
  have hrkW : rankNum ss (encT ss os) = digNum os 256 := encT_rank hnd (by omega) fun d hd => (hod d hd).1
  have hWb : KBw.bInts (byteArr (encT ss os)) = encT ss os := byte_ints hWd
  have hob : KBw.bInts (byteArr os) = os := byte_ints hod
  have hgw : gt.toList = (byteArr (encT ss os)).toList := bytes_eq (hgt.trans hWb.symm)
  k_steps
  · rename (gt.toList != _) = true => hne
    rw [hgw] at hne
    simp at hne
  refine Stop.out ?_
  rename Fr _ _ _ _ => F1
  rename News _ _ _ _ => N1
  refine' (dec_b_ct w (byteArr (encT ss os)) sg (encT ss os) ss _ _ hWb hsg (by omega) (by omega) (by omega) h32 hWm).use B F1 X N1 T rfl (trivial) ?hd ?hu ?_
  case hd => omega
  case hu => omega
  rintro v nw h' tk' ⟨rfl, td1, rfl⟩ kz frz F2 N2
  clear kz frz F1 N1
  try simp only [List.cons_append, List.nil_append, List.append_nil] at N2
  k_steps
  refine Stop.out ?_
  rename Fr _ _ _ _ => F1
  rename News _ _ _ _ => N1
  refine' (number_b_ct w (byteArr os) _ os 256 _ hob hod (by decide) (by omega)).use B F1 X N1 T rfl (trivial) ?hd ?hu ?_
  case hd => omega
  case hu => omega
  rintro v nw h' tk' ⟨rfl, tn2, rfl⟩ kz frz F2 N2
  clear kz frz F1 N1
  try simp only [List.cons_append, List.nil_append, List.append_nil] at N2
  k_steps
  refine Stop.out ?_
  rename Fr _ _ _ _ => F1
  rename News _ _ _ _ => N1
  refine' (whole_ct w (rankNum ss (encT ss os)) (digNum os 256) _ _ hrkW).use B F1 X N1 T rfl (trivial) ?hd ?hu ?_
  case hd => omega
  case hu => omega
  rintro v nw h' tk' ⟨rfl, rfl⟩ kz frz F2 N2
  clear kz frz F1 N1
  try simp only [List.cons_append, List.nil_append, List.append_nil] at N2
  k_steps
  · rename ((encT ss os).length : Int) = 0 => h0
    rename Fr _ _ _ _ => F9
    rename News _ _ _ _ => N9
    have e : (((encT ss os).length : Int) == 0) = true := by
      rw [h0]
      rfl
    rw [e]
    exact hret _ _ _ _ F9 N9
  refine Stop.out ?_
  rename Fr _ _ _ _ => F1
  refine' in_tuple_ints (tup_in (X.keeps F1.keep) ?g) ?hi ?_
  case g => k_is
  case hi => exact .cons 9 _ (.cons 32 _ .nil)
  k_steps
  · rename List.any _ _ = true => hany
    rename Fr _ _ _ _ => F9
    rename News _ _ _ _ => N9
    rw [hany]
    exact hret _ _ _ _ F9 N9
  rename List.any _ _ = false => hany
  rename ((encT ss os).length : Int) ≠ 0 => hne0
  rename 0 ≤ List.getD _ _ _ => z1
  rename List.getD _ _ _ < 256 => z2
  clear z1 z2
  have hend : ((encT ss os).reverse.dropWhile R.spaceI).reverse = encT ss os := last_keep fun z hz => by
    have h1 := hWm z (List.mem_of_getLast? hz)
    have e1 : (-1 + ((encT ss os).length : Int)).toNat = (encT ss os).length - 1 := by omega
    rw [e1, List.getD_eq_getElem?_getD, ← List.getLast?_eq_getElem?, hz] at hany
    simp only [List.any_cons, List.any_nil, Bool.or_false, Bool.or_eq_false_iff, beq_eq_false_iff_ne, Option.getD_some] at hany
    have h2 : z ≠ 9 := fun e => hany.1 e.symm
    have h3 : z ≠ 32 := fun e => hany.2 e.symm
    have := hsa z h1
    unfold R.spaceI
    exact decide_eq_false (by omega)
  have hlead : lead (ss.getD 0 0) (encT ss os) = nough os := encT_lead hnd (by omega)
  have hrest : (encT ss os).drop (nough os) = encI ss (digNum os 256) := encT_rest hnd (by omega)
  have hrank : rankNum ss (encI ss (digNum os 256)) = digNum os 256 := encI_rank hnd (by omega) (digNum_nonneg (by decide) fun k hk => (hod k hk).1)
  have hback : List.replicate (nough os) 0 ++ (ledI 256 (digNum os 256)).reverse = os := led_back hod
  have hled : (ledI 256 (digNum os 256)).length ≤ 8 := by
    have := congrArg List.length hback
    rw [List.length_append, List.length_reverse, List.length_replicate] at this
    omega
  refine Stop.out ?_
  rename Fr _ _ _ _ => F1
  rename News _ _ _ _ => N1
  refine' (b58_b_ct w (byteArr (encT ss os)) sg (encT ss os) ss _ _ hWb hsg (by omega) (by omega) (by omega) h32 hWm hend (by rw [hlead, hrest, hrank]; omega)).use B F1 X N1 T rfl (trivial) ?hd ?hu ?_
  case hd => omega
  case hu => omega
  rintro v nw h' tk' ⟨rfl, bk, tbk, rfl, hbk⟩ kz frz F2 N2
  clear kz frz F1 N1
  try simp only [List.cons_append, List.nil_append, List.append_nil] at N2
  rw [hlead, hrest, hrank, hback] at hbk
  have hbk2 : bk.toList = (byteArr os).toList := bytes_eq (hbk.trans hob.symm)
  k_steps
  rename Fr _ _ _ _ => F9
  rename News _ _ _ _ => N9
  have e : (bk.toList == (byteArr os).toList) = true := by
    rw [hbk2]
    simp
  rw [e]
  exact hret _ _ _ _ F9 N9
end Mine
-- LZ
namespace Mine
local macro_rules | `(tactic| walk_at "none") => `(tactic| fail)
local macro_rules | `(tactic| walk_at "none") => `(tactic| fail)
local macro_rules | `(tactic| walk_at "none") => `(tactic| fail)
local macro_rules | `(tactic| walk_at "none") => `(tactic| fail)
local macro_rules | `(tactic| walk_at "none") => `(tactic| fail)
local macro_rules | `(tactic| walk_at "none") => `(tactic| fail)
local macro_rules | `(tactic| walk_at "none") => `(tactic| fail)
theorem fresh_walk_LZ : True := by
 w_top off
 trivial
local macro_rules | `(tactic| walk1) => `(tactic| ((with_reducible show wpAny _ _ (exec (Stmt.While _ _ _ _) _) _ _ _); refine Stop.into ?_))
local macro_rules | `(tactic| walk1) => `(tactic| ((with_reducible show wpAny _ _ (exec (Stmt.For _ _ _ _ _) _) _ _ _); refine Stop.into ?_))
local macro_rules | `(tactic| walk1) => `(tactic| ((with_reducible show wpAny _ _ (pyIter _) _ _ _); refine Stop.into ?_))
local macro_rules | `(tactic| walk1) => `(tactic| ((with_reducible show wpAny _ _ (call (Value.ref _) _ _) _ _ _); refine Stop.into ?_))
local macro_rules | `(tactic| walk_at "getMethod bytes") => `(tactic| (with_reducible refine R.lstrip_method ?_))
local macro_rules | `(tactic| walk_at "getMethod bytes") => `(tactic| (with_reducible refine R.rstrip_method ?_))
local macro_rules | `(tactic| walk_at "getMethod str") => `(tactic| (with_reducible refine R.encode_method ?_))
local macro_rules | `(tactic| walk_at "call builtin:bytes.lstrip") => `(tactic| ((with_reducible show wpAny _ _ (call (Value.builtin "bytes.lstrip") [Value.bytes _ _, Value.bytes _ _]) _ _ _); (refine R.lstrip_call (by kba_ints2) (by kba_ints2) (by kba_size) ?_); intro _ _ _ hlst))
local macro_rules | `(tactic| walk_at "call builtin:bytes.rstrip") => `(tactic| ((with_reducible show wpAny _ _ (call (Value.builtin "bytes.rstrip") [Value.bytes _ _]) _ _ _); (refine R.rstrip_call (by kba_ints2) (by kba_size) ?_); intro _ _ _ hrst))
local macro_rules | `(tactic| walk_at "callWith ref") => `(tactic| (k_here; kfb_any; k_dflt (refine' R.fb_callWith ?hN ?hM ?ha ?_; (case hN => k_asm); (case hM => k_mem); (case ha => exact rfl); k_whole)))
local macro_rules | `(tactic| walk1) => `(tactic| ((with_reducible show wpAny _ _ (binaryOp Operator.Add (Value.bytes _ _) (Value.bytes _ _)) _ _ _); first | ((refine KBa.add_K (by kba_ints2) (by kba_ints2) (by ((try simp only [List.length_replicate, List.length_append, List.length_map, List.length_take, List.length_drop, List.length_cons, List.length_nil]); omega)) ?_); intro _ _ kbaApp) | (refine Stop.into ?_)))
local macro_rules | `(tactic| walk1) => `(tactic| ((with_reducible show wpAny _ _ (exec (Stmt.Assign _ (PySem.Expr.DictComp _ _ _ _ _) _) _) _ _ _); refine Stop.into ?_))
local macro_rules | `(tactic| walk1) => `(tactic| ((with_reducible show wpAny _ _ (call (Value.type "enumerate") _ _) _ _ _); refine Stop.into ?_))
local macro_rules | `(tactic| walk_at "eval Call") => `(tactic| ((with_reducible show wpAny _ _ (eval (PySem.Expr.Call (PySem.Expr.Name _ _) _ [] _) _) _ _ _); k_dflt (refine Call_ ?_)))
/-- the obligation of the lowest body -/
def BdC0 (prog : Program) (w : World) (K : Frag) (f : Addr) (qual : PySem.Str) (cdv : Value) (body : List Stmt) (scope : Scope) (binds : List (PySem.Str × Value)) (D : Nat) (pre : Heap → Prop) (Ret : Value → List (Addr × Obj) → Prop) : Prop :=
  ∀ (p : Program) (loose : List PySem.Str) (mean : ExcName → Option Value) (mg mb : PySem.Str → Option Value) (dp un : Nat) (gd : Option (List Code)) (A₀ : Around) (g : Heap) (L : Addr) (s : Shared) (Q : Flow → Shared → Prop) (cells : List (Addr × Obj)),
    Below A₀ g [] g → Fr g L s.heap (bindL (envOfC qual scope L f cdv).kindOf binds fun _ => none) → K.In g → News g L s.heap cells → CellsAre (bindC (envOfC qual scope L f cdv).kindOf binds fun _ => none) (cellsFrom (L + 1) scope.names []) cells → Top p loose mean mg mb g → pre g → dp + D < recursionLimit + 1 → un + 20 * D < cLine + 3 →
    (∀ v nw m' h' tk', Ret v nw → Fr g L h' m' → News g L h' nw → Q (.ret v) { s with heap := h', toks := tk' }) →
    wpAny (model prog w) (ktrTop dp un gd qual scope L f cdv (cellsFrom (L + 1) scope.names []) []) (execs body (envOfC qual scope L f cdv)) Q (fun _ _ => False) s
theorem top_apply0 {prog : Program} {w : World} {K : Frag} {f : Addr} {qual : PySem.Str} {cdv : Value} {body : List Stmt} {scope : Scope} {binds : List (PySem.Str × Value)} {D : Nat} {pre : Heap → Prop} {Ret : Value → List (Addr × Obj) → Prop}
    {p : Program} {loose : List PySem.Str} {mean : ExcName → Option Value} {mg mb : PySem.Str → Option Value} {dp un : Nat} {gd : Option (List Code)} {A₀ : Around} {g : Heap} {L : Addr} {s : Shared} {Q : Flow → Shared → Prop} {E : Value → Shared → Prop} {cells : List (Addr × Obj)}
    (h : BdC0 prog w K f qual cdv body scope binds D pre Ret) (B : Below A₀ g [] g) (F : Fr g L s.heap (bindL (envOfC qual scope L f cdv).kindOf binds fun _ => none)) (X : K.In g) (N : News g L s.heap cells)
    (Y : CellsAre (bindC (envOfC qual scope L f cdv).kindOf binds fun _ => none) (cellsFrom (L + 1) scope.names []) cells) (T : Top p loose mean mg mb g) (hp : pre g) (hd : dp + D < recursionLimit + 1) (hu : un + 20 * D < cLine + 3)
    (hret : ∀ v nw m' h' tk', Ret v nw → Fr g L h' m' → News g L h' nw → Q (.ret v) { s with heap := h', toks := tk' }) :
    wpAny (model prog w) (ktrTop dp un gd qual scope L f cdv (cellsFrom (L + 1) scope.names []) []) (execs body (envOfC qual scope L f cdv)) Q E s :=
  wpAny_mono (h p loose mean mg mb dp un gd A₀ g L s Q cells B F X N Y T hp hd hu hret) (fun _ _ x => x) fun _ _ x => x.elim
theorem name_ints {P : Prop} {vs : List Value} {ns : List Int} (_ : IntsAre vs ns) (k : ∀ vs' ns', vs' = vs → ns' = ns → P) : P := k vs ns rfl rfl
theorem name_list {P : Prop} {h : Heap} {l : Addr} {vs : Array Value} (_ : h.IsList l vs) (k : ∀ l', l' = l → P) : P := k l rfl
theorem law_holds : PySem.Challenge.rw_eg5003_01.Holds := by
  refine Mine.hd ?_
  k_go0
  rename Below _ _ _ _ => B
  rename Fr _ _ _ _ => F
  rename Frag.In _ _ => X
  rename News _ _ _ _ => N
  rename CellsAre _ _ _ => Y
  rename Top _ _ _ _ _ _ => T
  rename Heap.IsList _ _ _ => hL
  rename IntsAre _ _ => hI
  rename ¬ _ < _ => hlen
  refine name_ints hI ?_
  intro vs ns e1 e2
  subst e1 e2
  refine name_list hL ?_
  intro l e1
  subst e1
  rename World => w
  have hn : ns.length < 64 := by omega
  refine top_apply0 (D := 40) (pre := fun h => h.IsList l vs.toArray) (Ret := fun v _ => v = .bool true) ?bd B F X N Y T hL (by decide) (by decide) ?ret
  case ret =>
    intro v nw m' h' tk' hv F' N'
    subst hv
    dsimp only
    k_steps
    done
  case bd =>
    clear B F X N Y T hL hlen
    rename Heap.CodeRec _ _ _ => z1
    clear z1
    rename Dflts _ _ _ _ _ _ => z1
    clear z1
    rename Ground _ _ _ _ _ _ _ _ _ => z1
    clear z1
    rename Glob _ _ _ _ _ _ _ _ => z1
    clear z1
    rename Obj.data _ = Data.cell _ => z1
    clear z1
    intro p loose mean mg mb dp un gd A₀ g L s Q cells B F X N Y T hpre hd hu hret
    obtain ⟨oB0, oA, hE, d1, d2⟩ := PyProof.Rows.CellsAre.two Y
    subst hE
    clear Y
    replace d1 : oB0.data = .cell none := d1
    replace d2 : oA.data = .cell (some (.ref l)) := d2
    refine' piece_a ?ho0 ?hst0 B X T hd hu hpre hI hn d2 d1 F N ?rest0
    case ho0 => k_is
    case hst0 => rfl
    intro h1 tk1 m1 oB sg tsg ss j R0 tb tj dB hsg hS hj hj2 F1 N1 l1
    refine' piece_a2 ?ho1 ?hst1 B X T hd hu hpre hI hn d2 dB hsg hS hj hj2 l1 F1 N1 ?rest1
    case ho1 => k_is
    case hst1 => rfl
    intro h2 tk2 m2 rs us n0 tx tt tnum hr1 hr2 hrs hus htx F2 N2
    refine' piece_b ?ho2 ?hst2 B X T hd hu hpre hI hn d2 dB hsg hS hj hj2 l1 hr1 hr2 hrs hus htx F2 N2 ?rest2
    case ho2 => k_is
    case hst2 => rfl
    intro h3 tk3 m3 F3 N3
    refine' piece_b2 ?ho3 ?hst3 B X T hd hu hpre hI hn d2 dB hsg hS hj hj2 l1 hr1 hr2 hrs hus htx F3 N3 ?rest3
    case ho3 => k_is
    case hst3 => rfl
    intro h4 tk4 m4 F4 N4
    refine' piece_c ?ho4 ?hst4 B X T hd hu hpre hI hn d2 dB hsg hS hj hj2 l1 hr1 hr2 hrs hus htx F4 N4 ?rest4
    case ho4 => k_is
    case hst4 => rfl
    intro h5 tk5 m5 F5 N5
    refine' piece_c2 ?ho5 ?hst5 B X T hd hu hpre hI hn d2 dB hsg hS hj hj2 l1 hr1 hr2 hrs hus htx F5 N5 ?rest5
    case ho5 => k_is
    case hst5 => rfl
    intro h6 tk6 m6 F6 N6
    refine' piece_d ?ho6 ?hst6 B X T hd hu hpre hI hn d2 dB hsg hS hj hj2 l1 hr1 hr2 hrs hus htx F6 N6 ?rest6
    case ho6 => k_is
    case hst6 => rfl
    intro h7 tk7 m7 F7 N7
    refine' piece_e ?ho7 ?hst7 B X T hd hu hpre hI hn d2 dB hsg hS hj hj2 l1 hr1 hr2 hrs hus htx F7 N7 ?rest7
    case ho7 => k_is
    case hst7 => rfl
    intro h8 tk8 m8 os gt to1 tw1 tg1 hod hol hgt hWl hEl F8 N8
    refine' piece_f ?ho8 ?hst8 B X T hd hu hpre hI hn d2 dB hsg hS hod hol hgt hWl hEl F8 N8 ?rest8
    case ho8 => k_is
    case hst8 => rfl
    intro nw m9 h9 tk9 F9 N9
    exact hret _ nw m9 h9 tk9 rfl F9 N9
end Mine
theorem PySem.Challenge.cw_eg5003_01_holds : PySem.Challenge.rw_eg5003_01.Holds := by
  exact Mine.law_holds
